import JvmDerived
import JvmDerived.Pilot.@@N@@Statement
import JvmDerived.Pilot.@@N@@Code
set_option linter.unusedVariables false
set_option linter.unusedSimpArgs false

/- laws to paste: Road.backV, Road.eqW, Road.codOf (cut by pick.py; bodies as the Statement names them) -/
namespace Jvm.Pilot.@@N@@
namespace StrChars
open Jvm Sem ClassFile Op Lib Jvm.Stand Jvm.Free.XT Jvm.Free.ALB Jvm.Free.JM Jvm.Free
open Jvm.Lib.Cold (StaticIs)
/-- a char array whose places are chars -/
def Ch (a : Addr) (A : Cell) (U : State) : Prop := Arr .char a A U ∧ Typed .char A
theorem Ch.mv {a : Addr} {A : Cell} {U U' : State} (h : Ch a A U) (hal : U.vm.Alike U'.vm) (hh : U'.heap = U.heap) : Ch a A U' := ⟨h.1.mv hal hh, h.2⟩
theorem Ch.keep {a : Addr} {A : Cell} {U U' : State} (h : Ch a A U) (hal : U.vm.Alike U'.vm) (hk : U'.heap[a]? = some A) : Ch a A U' := ⟨h.1.keep hal hk, h.2⟩
/-- what place i of a char[]'s cell holds -/
def cv (A : Cell) (i : Nat) : Int32 := match A.slots[i]? with | some (.int x) => x | _ => 0
theorem Ch.get {a : Addr} {A : Cell} {U : State} (h : Ch a A U) {i : Nat} (hi : i < A.slots.size) : A.slots[i]? = some (.int (cv A i)) := by
  have e := Array.getElem?_eq_getElem hi
  have f := h.2 i _ e
  unfold cv; rw [e]
  generalize A.slots[i] = v at f
  cases v <;> simp [fits] at f ⊢
/-- the byte that i2b leaves of a char -/
def lo8 (x : Int32) : Int32 := x.toInt8.toInt32
theorem fits_lo8 (y : Int32) : fits .byte (.int (lo8 y)) = true := by
  have h1 := y.toInt8.le_toInt
  have h2 := y.toInt8.toInt_lt
  simp only [lo8, fits, Bool.and_eq_true, decide_eq_true_eq, Int32.le_iff_toInt_le, Int8.toInt_toInt32, show (-128 : Int32).toInt = -128 from by decide, show (127 : Int32).toInt = 127 from by decide]
  omega
/-- A' is A but that each place j of lo .. hi - 1 holds f j -/
def Laid (A A' : Cell) (lo hi : Nat) (f : Nat → Value) : Prop := A'.cls = A.cls ∧ A'.vm = A.vm ∧ A'.slots.size = A.slots.size ∧ ∀ i, A'.slots[i]? = if lo ≤ i ∧ i < hi then some (f i) else A.slots[i]?
theorem Laid.zero (A : Cell) (lo : Nat) (f : Nat → Value) : Laid A A lo (lo + 0) f := ⟨rfl, rfl, rfl, fun i => by rw [if_neg (by omega)]⟩
theorem Laid.step {A Ak : Cell} {lo k : Nat} {f : Nat → Value} {v : Value} (h : Laid A Ak lo k f) (hlo : lo ≤ k) (hk : k < Ak.slots.size) (hv : v = f k) : Laid A (Ak.setSlot k v) lo (k + 1) f := by
  refine ⟨h.1, h.2.1, by simpa [Cell.setSlot] using h.2.2.1, fun i => ?_⟩
  by_cases e : k = i
  · subst e; rw [Cell.slots_setSlot_self v hk, if_pos (by omega), hv]
  · rw [Cell.slots_setSlot_ne v e, h.2.2.2 i]
    by_cases q : lo ≤ i ∧ i < k
    · rw [if_pos q, if_pos (by omega)]
    · rw [if_neg q, if_neg (by omega)]
def U16 : String := "java/lang/StringUTF16"
namespace Cmp5
def yN : MethodName := ⟨"java/lang/StringUTF16", "compress", "([CI[BII)I"⟩
abbrev yB : ByteArray := jdk_52_method_21_code
theorem d0 : decode yB 0 = .ok (.iconst 0, 1) := by decide +kernel
theorem d1 : decode yB 1 = .ok (.istore 5, 2) := by decide +kernel
theorem d3 : decode yB 3 = .ok (.iload 5, 2) := by decide +kernel
theorem d5 : decode yB 5 = .ok (.iload 4, 2) := by decide +kernel
theorem d7 : decode yB 7 = .ok (.if_icmp (.ge) 37, 3) := by decide +kernel
theorem d10 : decode yB 10 = .ok (.aload_n 0, 1) := by decide +kernel
theorem d11 : decode yB 11 = .ok (.iload_n 1, 1) := by decide +kernel
theorem d12 : decode yB 12 = .ok (.caload, 1) := by decide +kernel
theorem d13 : decode yB 13 = .ok (.istore 6, 2) := by decide +kernel
theorem d15 : decode yB 15 = .ok (.iload 6, 2) := by decide +kernel
theorem d17 : decode yB 17 = .ok (.sipush 255, 3) := by decide +kernel
theorem d20 : decode yB 20 = .ok (.if_icmp (.le) 6, 3) := by decide +kernel
theorem d26 : decode yB 26 = .ok (.aload_n 2, 1) := by decide +kernel
theorem d27 : decode yB 27 = .ok (.iload_n 3, 1) := by decide +kernel
theorem d28 : decode yB 28 = .ok (.iload 6, 2) := by decide +kernel
theorem d30 : decode yB 30 = .ok (.i2b, 1) := by decide +kernel
theorem d31 : decode yB 31 = .ok (.bastore, 1) := by decide +kernel
theorem d32 : decode yB 32 = .ok (.iinc 1 1, 3) := by decide +kernel
theorem d35 : decode yB 35 = .ok (.iinc 3 1, 3) := by decide +kernel
theorem d38 : decode yB 38 = .ok (.iinc 5 1, 3) := by decide +kernel
theorem d41 : decode yB 41 = .ok (.goto (-38), 3) := by decide +kernel
theorem d44 : decode yB 44 = .ok (.iload 4, 2) := by decide +kernel
theorem d46 : decode yB 46 = .ok (.ireturn, 1) := by decide +kernel
def site : List Cond := []
def tab : Cond := tabOf yN yB 7 (some .int) site
def P (b : Addr) (A : Cell) (d : Addr) (B : Cell) (o q len : Nat) (args : Array Value) (s : State) : Prop := args = #[.ref b, .int (Int32.ofNat o), .ref d, .int (Int32.ofNat q), .int (Int32.ofNat len)] ∧ Ch b A s ∧ Arr .byte d B s ∧ b ≠ d ∧ o + len ≤ A.slots.size ∧ q + len ≤ B.slots.size ∧ ∀ i, i < len → ¬ 255 < cv A (o + i)
def E (b : Addr) (A : Cell) (d : Addr) (B : Cell) (o q len : Nat) (r : Option Value) (s u : State) : Prop := r = some (.int (Int32.ofNat len)) ∧ ∃ B', Put d B' s u ∧ Laid B B' q (q + len) (fun j => Value.int (lo8 (cv A (o + (j - q)))))
/-- no char of the range above 255: len; the places written hold each char's low byte -/
theorem law (l : Launch) (b : Addr) (A : Cell) (d : Addr) (B : Cell) (o q len : Nat) : Law l yN 5 5 0 0 yB 7 (some .int) site (P b A d B o q len) (E b A d B o q len) (copyLocs d q len) 0 0 := by
  refine Law.of_walk (plainFor_of_name (by decide +kernel)) (by decide +kernel) (by decide +kernel) (by decide) (fun _ _ h => by rw [h.1]; rfl) (fun _ U U' hal hh h => ⟨h.1, h.2.1.mv hal hh, h.2.2.1.mv hal hh, h.2.2.2⟩) (fun r U U' V V' h1 hal h2 h => ⟨h.1, h.2.elim fun B' q => ⟨B', q.1.mv h1 h2, q.2⟩⟩) ?_
  intro p e s m args below meth c s₁ X0 hexec hbytes hml hret hlk hnm hown hh0 W hP
  obtain ⟨rfl, hA, hB, hne, l1, l2, hp⟩ := hP
  have c1 : Steps p.tables e below (s₁.setTop (entryFrame m #[.ref b, .int (Int32.ofNat o), .ref d, .int (Int32.ofNat q), .int (Int32.ofNat len)] 7)) (s₁.setTop (mkF m 0 #[.val (.ref b), .val (.int (Int32.ofNat o)), .val (.ref d), .val (.int (Int32.ofNat q)), .val (.int (Int32.ofNat len)), .unset, .unset] [])) := entry rfl
  have hA0 := hA.1.mv X0.warmed.alike hh0
  have hB0 := hB.mv X0.warmed.alike hh0
  have a31 := hA.1.2.2.2
  have c2 : Steps p.tables e below (s₁.setTop (entryFrame m #[.ref b, .int (Int32.ofNat o), .ref d, .int (Int32.ofNat q), .int (Int32.ofNat len)] 7)) (s₁.setTop (mkF m 3 #[.val (.ref b), .val (.int (Int32.ofNat o)), .val (.ref d), .val (.int (Int32.ofNat q)), .val (.int (Int32.ofNat len)), .val (.int 0), .unset] [])) := c1.trans (by
    refine iconstV X0.here hexec rfl 0 (hb hbytes d0) (by decide) ?_
    refine XS.istore X0.here hexec rfl (hb hbytes d1) rfl rfl ?_
    exact Steps.refl _)
  have loop : ∀ (r i : Nat), i + r = len → ∀ (z : Slot), (z = .unset ∨ ∃ w, z = .val w ∧ w.category = 1) → ∀ (Tl : State) (Bk : Cell), Stand p l e { frames := 0, locals := 0, cells := 0, slots := 0 } s m #[.ref b, .int (Int32.ofNat o), .ref d, .int (Int32.ofNat q), .int (Int32.ofNat len)] below meth c Tl ([] ++ copyLocs d q i) 0 0 → Put d Bk s₁ Tl → Laid B Bk q (q + i) (fun j => Value.int (lo8 (cv A (o + (j - q))))) →
      Steps p.tables e below (s₁.setTop (entryFrame m #[.ref b, .int (Int32.ofNat o), .ref d, .int (Int32.ofNat q), .int (Int32.ofNat len)] 7)) (Tl.setTop (mkF m 3 #[.val (.ref b), .val (.int (Int32.ofNat (o + i))), .val (.ref d), .val (.int (Int32.ofNat (q + i))), .val (.int (Int32.ofNat len)), .val (.int (Int32.ofNat i)), z] [])) → ∃ (T' : State) (B' : Cell) (z' : Slot), Stand p l e { frames := 0, locals := 0, cells := 0, slots := 0 } s m #[.ref b, .int (Int32.ofNat o), .ref d, .int (Int32.ofNat q), .int (Int32.ofNat len)] below meth c T' ([] ++ copyLocs d q len) 0 0 ∧ Put d B' s₁ T' ∧ Laid B B' q (q + len) (fun j => Value.int (lo8 (cv A (o + (j - q))))) ∧
      Steps p.tables e below (s₁.setTop (entryFrame m #[.ref b, .int (Int32.ofNat o), .ref d, .int (Int32.ofNat q), .int (Int32.ofNat len)] 7)) (T'.setTop (mkF m 3 #[.val (.ref b), .val (.int (Int32.ofNat (o + len))), .val (.ref d), .val (.int (Int32.ofNat (q + len))), .val (.int (Int32.ofNat len)), .val (.int (Int32.ofNat len)), z'] [])) := by
    intro r
    induction r with
    | zero =>
      intro i hi z hz Tl Bk Xl pl fl cl
      have hil : i = len := by omega
      rw [hil] at Xl fl cl
      exact ⟨Tl, Bk, z, Xl, pl, fl, cl⟩
    | succ r ih =>
      intro i hi z hz Tl Bk Xl pl fl cl
      have all := X0.warmed.alike.symm.trans Xl.warmed.alike
      have hAl := hA0.keep all (pl.other hne hA0.1)
      have hBk := hB0.like all pl.1 fl.1 fl.2.1 fl.2.2.1
      have hlt : q + i < Bk.slots.size := by rw [fl.2.2.1]; omega
      have c3 : Steps p.tables e below (s₁.setTop (entryFrame m #[.ref b, .int (Int32.ofNat o), .ref d, .int (Int32.ofNat q), .int (Int32.ofNat len)] 7)) (Tl.setTop (mkF m 12 #[.val (.ref b), .val (.int (Int32.ofNat (o + i))), .val (.ref d), .val (.int (Int32.ofNat (q + i))), .val (.int (Int32.ofNat len)), .val (.int (Int32.ofNat i)), z] [.int (Int32.ofNat (o + i)), .ref b])) := cl.trans (by
        refine XS.iload Xl.here hexec rfl (hb hbytes d3) rfl ?_
        refine XS.iload Xl.here hexec rfl (hb hbytes d5) rfl ?_
        refine XS.icmpNo Xl.here hexec rfl (hb hbytes d7) rfl (ii_ge_f (lt32 (by omega) (by omega))) ?_
        refine XS.aloadN Xl.here hexec rfl (hb hbytes d10) rfl rfl ?_
        refine XS.iloadN Xl.here hexec rfl (hb hbytes d11) rfl ?_
        exact Steps.refl _)
      have c4 : Steps p.tables e below (s₁.setTop (entryFrame m #[.ref b, .int (Int32.ofNat o), .ref d, .int (Int32.ofNat q), .int (Int32.ofNat len)] 7)) (Tl.setTop (mkF m 13 #[.val (.ref b), .val (.int (Int32.ofNat (o + i))), .val (.ref d), .val (.int (Int32.ofNat (q + i))), .val (.int (Int32.ofNat len)), .val (.int (Int32.ofNat i)), z] [.int (cv A (o + i))])) := c3.trans (by
        refine Xl.aget hexec hAl rfl (hA.get (i := o + i) (by omega)) rfl rfl (hb hbytes d12) ?_
        exact Steps.refl _)
      have c5 : Steps p.tables e below (s₁.setTop (entryFrame m #[.ref b, .int (Int32.ofNat o), .ref d, .int (Int32.ofNat q), .int (Int32.ofNat len)] 7)) (Tl.setTop (mkF m 15 #[.val (.ref b), .val (.int (Int32.ofNat (o + i))), .val (.ref d), .val (.int (Int32.ofNat (q + i))), .val (.int (Int32.ofNat len)), .val (.int (Int32.ofNat i)), .val (.int (cv A (o + i)))] [])) := c4.trans (by
        refine XS.istoreS Xl.here hexec rfl (hb hbytes d13) rfl rfl hz ?_
        exact Steps.refl _)
      have c6 : Steps p.tables e below (s₁.setTop (entryFrame m #[.ref b, .int (Int32.ofNat o), .ref d, .int (Int32.ofNat q), .int (Int32.ofNat len)] 7)) (Tl.setTop (mkF m 31 #[.val (.ref b), .val (.int (Int32.ofNat (o + i))), .val (.ref d), .val (.int (Int32.ofNat (q + i))), .val (.int (Int32.ofNat len)), .val (.int (Int32.ofNat i)), .val (.int (cv A (o + i)))] [.int (lo8 (cv A (o + i))), .int (Int32.ofNat (q + i)), .ref d])) := c5.trans (by
        refine XS.iload Xl.here hexec rfl (hb hbytes d15) rfl ?_
        refine sipushV Xl.here hexec rfl 255 (hb hbytes d17) (by decide) ?_
        refine XS.icmpYes Xl.here hexec rfl (pc0 := 20) rfl (hb hbytes d20) rfl (ii_le_t (hp i (by omega))) (by decide) rfl ?_
        refine XS.aloadN Xl.here hexec rfl (hb hbytes d26) rfl rfl ?_
        refine XS.iloadN Xl.here hexec rfl (hb hbytes d27) rfl ?_
        refine XS.iload Xl.here hexec rfl (hb hbytes d28) rfl ?_
        refine i2b Xl.here hexec rfl (hb hbytes d30) rfl ?_
        exact Steps.refl _)
      obtain ⟨T7, X7, p7, st7⟩ := Xl.aput hexec hBk rfl hlt rfl (fits_lo8 (cv A (o + i))) (g := (mkF m 31 #[.val (.ref b), .val (.int (Int32.ofNat (o + i))), .val (.ref d), .val (.int (Int32.ofNat (q + i))), .val (.int (Int32.ofNat len)), .val (.int (Int32.ofNat i)), .val (.int (cv A (o + i)))] [.int (lo8 (cv A (o + i))), .int (Int32.ofNat (q + i)), .ref d])) rfl (rest := []) rfl (hb hbytes d31)
      have c8 : Steps p.tables e below (s₁.setTop (entryFrame m #[.ref b, .int (Int32.ofNat o), .ref d, .int (Int32.ofNat q), .int (Int32.ofNat len)] 7)) (T7.setTop (mkF m 32 #[.val (.ref b), .val (.int (Int32.ofNat (o + i))), .val (.ref d), .val (.int (Int32.ofNat (q + i))), .val (.int (Int32.ofNat len)), .val (.int (Int32.ofNat i)), .val (.int (cv A (o + i)))] [])) := c6.trans (st7 _ (Steps.refl _))
      have c9 : Steps p.tables e below (s₁.setTop (entryFrame m #[.ref b, .int (Int32.ofNat o), .ref d, .int (Int32.ofNat q), .int (Int32.ofNat len)] 7)) (T7.setTop (mkF m 3 #[.val (.ref b), .val (.int (Int32.ofNat (o + i) + 1)), .val (.ref d), .val (.int (Int32.ofNat (q + i) + 1)), .val (.int (Int32.ofNat len)), .val (.int (Int32.ofNat i + 1)), .val (.int (cv A (o + i)))] [])) := c8.trans (by
        refine iincV X7.here hexec rfl 1 (hb hbytes d32) (by decide) rfl rfl ?_
        refine iincV X7.here hexec rfl 1 (hb hbytes d35) (by decide) rfl rfl ?_
        refine iincV X7.here hexec rfl 1 (hb hbytes d38) (by decide) rfl rfl ?_
        refine XS.goto X7.here hexec rfl (pc0 := 41) rfl (hb hbytes d41) (by decide) rfl ?_
        exact Steps.refl _)
      have c10 : Steps p.tables e below (s₁.setTop (entryFrame m #[.ref b, .int (Int32.ofNat o), .ref d, .int (Int32.ofNat q), .int (Int32.ofNat len)] 7)) (T7.setTop (mkF m 3 #[.val (.ref b), .val (.int (Int32.ofNat (o + (i + 1)))), .val (.ref d), .val (.int (Int32.ofNat (q + (i + 1)))), .val (.int (Int32.ofNat len)), .val (.int (Int32.ofNat (i + 1))), .val (.int (cv A (o + i)))] [])) := by
        have := c9
        rw [succ32, succ32, succ32] at this
        exact this
      exact ih (i + 1) (by omega) _ (Or.inr ⟨_, rfl, rfl⟩) T7 _ (by rw [copyLocs_step, ← List.append_assoc]; exact X7) (pl.trans p7) (fl.step (by omega) hlt (by simp)) c10
  obtain ⟨T9, B9, z9, X9, p9, f9, g9⟩ := loop len 0 (by omega) .unset (Or.inl rfl) s₁ B (by simpa [copyLocs] using X0) ⟨hB0.1, fun _ _ => rfl, rfl⟩ (Laid.zero _ _ _) c2
  have c11 : Steps p.tables e below (s₁.setTop (entryFrame m #[.ref b, .int (Int32.ofNat o), .ref d, .int (Int32.ofNat q), .int (Int32.ofNat len)] 7)) (T9.setTop (mkF m 46 #[.val (.ref b), .val (.int (Int32.ofNat (o + len))), .val (.ref d), .val (.int (Int32.ofNat (q + len))), .val (.int (Int32.ofNat len)), .val (.int (Int32.ofNat len)), z9] [.int (Int32.ofNat len)])) := g9.trans (by
    refine XS.iload X9.here hexec rfl (hb hbytes d3) rfl ?_
    refine XS.iload X9.here hexec rfl (hb hbytes d5) rfl ?_
    refine XS.icmpYes X9.here hexec rfl (pc0 := 7) rfl (hb hbytes d7) rfl (ii_ge_t (nlt32 (by omega) (Nat.le_refl _))) (by decide) rfl ?_
    refine XS.iload X9.here hexec rfl (hb hbytes d44) rfl ?_
    exact Steps.refl _)
  exact ⟨T9, some (.int (Int32.ofNat len)), _, _, _, X9, by simp, rfl, rfl, (fun h => by cases h), ⟨rfl, B9, p9.from hh0, f9⟩, fun fs hl => c11.trans (X9.ireturnOut hexec hret rfl (Or.inl rfl) (hb hbytes d46) hl)⟩
end Cmp5
namespace Cmp3
def yN : MethodName := ⟨"java/lang/StringUTF16", "compress", "([CII)[B"⟩
abbrev yB : ByteArray := jdk_52_method_16_code
theorem d0 : decode yB 0 = .ok (.iload_n 2, 1) := by decide +kernel
theorem d1 : decode yB 1 = .ok (.newarray .byte, 2) := by decide +kernel
theorem d3 : decode yB 3 = .ok (.astore_n 3, 1) := by decide +kernel
theorem d4 : decode yB 4 = .ok (.aload_n 0, 1) := by decide +kernel
theorem d5 : decode yB 5 = .ok (.iload_n 1, 1) := by decide +kernel
theorem d6 : decode yB 6 = .ok (.aload_n 3, 1) := by decide +kernel
theorem d7 : decode yB 7 = .ok (.iconst 0, 1) := by decide +kernel
theorem d8 : decode yB 8 = .ok (.iload_n 2, 1) := by decide +kernel
theorem d9 : decode yB 9 = .ok (.invokestatic 115, 3) := by decide +kernel
theorem d12 : decode yB 12 = .ok (.istore 4, 2) := by decide +kernel
theorem d14 : decode yB 14 = .ok (.iload 4, 2) := by decide +kernel
theorem d16 : decode yB 16 = .ok (.iload_n 2, 1) := by decide +kernel
theorem d17 : decode yB 17 = .ok (.if_icmp (.eq) 40, 3) := by decide +kernel
theorem d57 : decode yB 57 = .ok (.aload_n 3, 1) := by decide +kernel
theorem d58 : decode yB 58 = .ok (.areturn, 1) := by decide +kernel
def site : List Cond := [.arrayClass .byte, Cmp5.tab] ++ staticW U16 115 Cmp5.yN
def tab : Cond := tabOf yN yB 6 (some (.array .byte)) site
def P (b : Addr) (A : Cell) (o len : Nat) (args : Array Value) (s : State) : Prop := args = #[.ref b, .int (Int32.ofNat o), .int (Int32.ofNat len)] ∧ Ch b A s ∧ o + len ≤ A.slots.size ∧ len ≤ 536870912 ∧ ∀ i, i < len → ¬ 255 < cv A (o + i)
def E (b : Addr) (A : Cell) (o len : Nat) (r : Option Value) (s u : State) : Prop := NewArr .byte "[B" len (fun j => .int (lo8 (cv A (o + j)))) r s u ∧ u.heap.size = s.heap.size + 1
/-- no char of the range above 255: a new byte[] of their low bytes -/
theorem law (l : Launch) (b : Addr) (A : Cell) (o len : Nat) : Law l yN 3 3 1 18 yB 6 (some (.array .byte)) site (P b A o len) (E b A o len) [] 1 len := by
  refine Law.of_walk (plainFor_of_name (by decide +kernel)) (by decide +kernel) (by decide +kernel) (by decide) (fun _ _ h => by rw [h.1]; rfl) (fun _ U U' hal hh h => ⟨h.1, h.2.1.mv hal hh, h.2.2⟩) (fun r U U' V V' h1 hal h2 h => ⟨NewArr.mv r U U' V V' h1 hal h2 h.1, by rw [h1, h2]; exact h.2⟩) ?_
  intro p e s m args below meth c s₁ X0 hexec hbytes hml hret hlk hnm hown hh0 W hP
  obtain ⟨rfl, hA, l1, l2, hp⟩ := hP
  have a31 := hA.1.2.2.2
  have c1 : Steps p.tables e below (s₁.setTop (entryFrame m #[.ref b, .int (Int32.ofNat o), .int (Int32.ofNat len)] 6)) (s₁.setTop (mkF m 0 #[.val (.ref b), .val (.int (Int32.ofNat o)), .val (.int (Int32.ofNat len)), .unset, .unset, .unset] [])) := entry rfl
  have c2 : Steps p.tables e below (s₁.setTop (entryFrame m #[.ref b, .int (Int32.ofNat o), .int (Int32.ofNat len)] 6)) (s₁.setTop (mkF m 1 #[.val (.ref b), .val (.int (Int32.ofNat o)), .val (.int (Int32.ofNat len)), .unset, .unset, .unset] [.int (Int32.ofNat len)])) := c1.trans (by
    refine XS.iloadN X0.here hexec rfl (hb hbytes d0) rfl ?_
    exact Steps.refl _)
  obtain ⟨T3, B3, X3, ba3, bs3, bv3, bh3, bf3, st3⟩ := X0.anew hexec (atype := .byte) (wk W (.arrayClass .byte)) rfl (by show len * 1 ≤ _; omega) (by omega) (g := (mkF m 1 #[.val (.ref b), .val (.int (Int32.ofNat o)), .val (.int (Int32.ofNat len)), .unset, .unset, .unset] [.int (Int32.ofNat len)])) rfl (hb hbytes d1) (rest := []) rfl (Nat.le_refl _) (by show 0 + len ≤ len; omega)
  rw [hh0] at ba3 st3
  have kp3 : XT.Kept s T3 := (XT.Kept.of_eq hh0).push bh3
  have hA3 := hA.keep X3.warmed.alike (kp3 _ _ hA.1.1)
  have hne : b ≠ s.heap.size := hA.1.ne
  have c4 : Steps p.tables e below (s₁.setTop (entryFrame m #[.ref b, .int (Int32.ofNat o), .int (Int32.ofNat len)] 6)) (T3.setTop (mkF m 3 #[.val (.ref b), .val (.int (Int32.ofNat o)), .val (.int (Int32.ofNat len)), .unset, .unset, .unset] [.ref s.heap.size])) := c2.trans (st3 _ (Steps.refl _))
  have c5 : Steps p.tables e below (s₁.setTop (entryFrame m #[.ref b, .int (Int32.ofNat o), .int (Int32.ofNat len)] 6)) (T3.setTop (mkF m 9 #[.val (.ref b), .val (.int (Int32.ofNat o)), .val (.int (Int32.ofNat len)), .val (.ref s.heap.size), .unset, .unset] [.int (Int32.ofNat len), .int 0, .ref s.heap.size, .int (Int32.ofNat o), .ref b])) := c4.trans (by
    refine XS.astoreN X3.here hexec rfl (hb hbytes d3) rfl rfl rfl ?_
    refine XS.aloadN X3.here hexec rfl (hb hbytes d4) rfl rfl ?_
    refine XS.iloadN X3.here hexec rfl (hb hbytes d5) rfl ?_
    refine XS.aloadN X3.here hexec rfl (hb hbytes d6) rfl rfl ?_
    refine iconstV X3.here hexec rfl 0 (hb hbytes d7) (by decide) ?_
    refine XS.iloadN X3.here hexec rfl (hb hbytes d8) rfl ?_
    exact Steps.refl _)
  obtain ⟨v6, T6, X6, E6, g6⟩ := X3.callS hexec (Cmp5.law l b A s.heap.size B3 o 0 len) hown (wks W (staticW U16 115 Cmp5.yN)) (wk W Cmp5.tab) (W := 0) (Nat.le_of_ble_eq_true rfl) (Nat.le_of_ble_eq_true rfl) (Nat.le_refl _) (by show 0 + len + 0 ≤ len; omega) (g := (mkF m 9 #[.val (.ref b), .val (.int (Int32.ofNat o)), .val (.int (Int32.ofNat len)), .val (.ref s.heap.size), .unset, .unset] [.int (Int32.ofNat len), .int (Int32.ofNat 0), .ref s.heap.size, .int (Int32.ofNat o), .ref b])) rfl (by rw [hml]; rfl) c5 (argsL := [.ref b, .int (Int32.ofNat o), .ref s.heap.size, .int (Int32.ofNat 0), .int (Int32.ofNat len)]) (rest := []) rfl rfl (by show 2 * 0 + 0 ≤ _; decide) (hb hbytes d9) (⟨rfl, hA3, ba3, hne, l1, by rw [bs3]; simp, hp⟩)
  obtain ⟨rfl, B6, p6, f6⟩ := E6
  have c7 : Steps p.tables e below (s₁.setTop (entryFrame m #[.ref b, .int (Int32.ofNat o), .int (Int32.ofNat len)] 6)) (T6.setTop (mkF m 12 #[.val (.ref b), .val (.int (Int32.ofNat o)), .val (.int (Int32.ofNat len)), .val (.ref s.heap.size), .unset, .unset] [.int (Int32.ofNat len)])) := g6
  have c8 : Steps p.tables e below (s₁.setTop (entryFrame m #[.ref b, .int (Int32.ofNat o), .int (Int32.ofNat len)] 6)) (T6.setTop (mkF m 58 #[.val (.ref b), .val (.int (Int32.ofNat o)), .val (.int (Int32.ofNat len)), .val (.ref s.heap.size), .val (.int (Int32.ofNat len)), .unset] [.ref s.heap.size])) := c7.trans (by
    refine XS.istore X6.here hexec rfl (hb hbytes d12) rfl rfl ?_
    refine XS.iload X6.here hexec rfl (hb hbytes d14) rfl ?_
    refine XS.iloadN X6.here hexec rfl (hb hbytes d16) rfl ?_
    refine XS.icmpYes X6.here hexec rfl (pc0 := 17) rfl (hb hbytes d17) rfl (ii_eq_t rfl) (by decide) rfl ?_
    refine XS.aloadN X6.here hexec rfl (hb hbytes d57) rfl rfl ?_
    exact Steps.refl _)
  have X8 := X6.wide (L' := []) (cells' := 1) (slots' := len) (fun x hx hlt => by
    simp only [List.nil_append, copyLocs, List.mem_map, List.mem_range] at hx
    obtain ⟨i, -, rfl⟩ := hx
    exact absurd hlt (Nat.lt_irrefl _)) (Nat.le_refl _) (by omega)
  exact ⟨T6, some (.ref s.heap.size), _, _, _, X8, rfl, rfl, rfl, (fun h => by cases h), ⟨⟨rfl, B6, ba3.like (X3.warmed.alike.symm.trans X6.warmed.alike) p6.1 f6.1 f6.2.1 f6.2.2.1, f6.2.1.trans bv3, by rw [X6.warmed.alike.findClass, f6.1]; exact bf3, by rw [f6.2.2.1, bs3]; simp, fun j hj => by rw [f6.2.2.2 j, if_pos (by omega)]; rfl, kp3.put p6 (Nat.le_refl _)⟩, by rw [p6.2.2, bh3, hh0]; simp⟩, fun fs hl => c8.trans (X8.areturnOut hexec rfl hret rfl (hb hbytes d58) hl)⟩
end Cmp3
namespace CodL
def yN : MethodName := ⟨"java/lang/StringUTF16", "coderFromArrayLen", "([BI)B"⟩
abbrev yB : ByteArray := jdk_52_method_15_code
theorem d0 : decode yB 0 = .ok (.iload_n 1, 1) := by decide +kernel
theorem d1 : decode yB 1 = .ok (.aload_n 0, 1) := by decide +kernel
theorem d2 : decode yB 2 = .ok (.arraylength, 1) := by decide +kernel
theorem d3 : decode yB 3 = .ok (.isub, 1) := by decide +kernel
theorem d4 : decode yB 4 = .ok (.bipush 31, 2) := by decide +kernel
theorem d6 : decode yB 6 = .ok (.iushr, 1) := by decide +kernel
theorem d7 : decode yB 7 = .ok (.i2b, 1) := by decide +kernel
theorem d8 : decode yB 8 = .ok (.ireturn, 1) := by decide +kernel
def site : List Cond := []
def tab : Cond := tabOf yN yB 2 (some .byte) site
def P (d : Addr) (B : Cell) (args : Array Value) (s : State) : Prop := args = #[.ref d, .int (Int32.ofNat B.slots.size)] ∧ Arr .byte d B s
def E (r : Option Value) (s u : State) : Prop := XT.PureE (some (.int 0)) r s u
/-- an array as long as the number of chars: LATIN1 -/
theorem law (l : Launch) (d : Addr) (B : Cell) : Law l yN 2 2 0 0 yB 2 (some .byte) site (P d B) E [] 0 0 := by
  refine Law.of_walk (plainFor_of_name (by decide +kernel)) (by decide +kernel) (by decide +kernel) (by decide) (fun _ _ h => by rw [h.1]; rfl) (fun _ U U' hal hh h => ⟨h.1, h.2.mv hal hh⟩) (fun r U U' V V' h1 hal h2 h => XT.PureE.mv r U U' V V' h1 hal h2 h) ?_
  intro p e s m args below meth c s₁ X0 hexec hbytes hml hret hlk hnm hown hh0 W hP
  obtain ⟨rfl, hB⟩ := hP
  have hB0 := hB.mv X0.warmed.alike hh0
  have c1 : Steps p.tables e below (s₁.setTop (entryFrame m #[.ref d, .int (Int32.ofNat B.slots.size)] 2)) (s₁.setTop (mkF m 0 #[.val (.ref d), .val (.int (Int32.ofNat B.slots.size))] [])) := entry rfl
  have c2 : Steps p.tables e below (s₁.setTop (entryFrame m #[.ref d, .int (Int32.ofNat B.slots.size)] 2)) (s₁.setTop (mkF m 2 #[.val (.ref d), .val (.int (Int32.ofNat B.slots.size))] [.ref d, .int (Int32.ofNat B.slots.size)])) := c1.trans (by
    refine XS.iloadN X0.here hexec rfl (hb hbytes d0) rfl ?_
    refine XS.aloadN X0.here hexec rfl (hb hbytes d1) rfl rfl ?_
    exact Steps.refl _)
  have c3 : Steps p.tables e below (s₁.setTop (entryFrame m #[.ref d, .int (Int32.ofNat B.slots.size)] 2)) (s₁.setTop (mkF m 8 #[.val (.ref d), .val (.int (Int32.ofNat B.slots.size))] [.int (lo8 (ushr (Int32.ofNat B.slots.size - Int32.ofNat B.slots.size) 31))])) := c2.trans (by
    refine X0.alen hexec hB0 rfl rfl (hb hbytes d2) ?_
    refine XS.isub X0.here hexec rfl (hb hbytes d3) rfl ?_
    refine bipushV X0.here hexec rfl 31 (hb hbytes d4) (by decide) ?_
    refine iushr X0.here hexec rfl (hb hbytes d6) rfl ?_
    refine i2b X0.here hexec rfl (hb hbytes d7) rfl ?_
    exact Steps.refl _)
  have e0 : lo8 (ushr (Int32.ofNat B.slots.size - Int32.ofNat B.slots.size) 31) = 0 := by rw [Int32.sub_self]; decide
  rw [e0] at c3
  exact ⟨s₁, some (.int 0), _, _, _, X0, rfl, rfl, rfl, (fun h => by cases h), ⟨rfl, hh0⟩, fun fs hl => c3.trans (X0.ireturnOut hexec hret rfl (Or.inr (Or.inr (Or.inl rfl))) (hb hbytes d8) hl)⟩
end CodL
/-- the String at a is Latin-1 over a new byte[] (the heap's one new cell): the low bytes of the len chars of A from o on; every cell but a is kept -/
def Got (a : Addr) (D : Cell) (fV fC : Field) (A : Cell) (o len : Nat) (r : Option Value) (s u : State) : Prop := r = none ∧ ∃ D' V : Cell, Blank "java/lang/String" a D' u ∧ Same D D' [fV.slot, fC.slot] ∧ D'.slots[fV.slot]? = some (.ref s.heap.size) ∧ D'.slots[fC.slot]? = some (.int 0) ∧ Arr .byte s.heap.size V u ∧ V.vm = .none ∧ u.vm.findClass "[B" = some V.cls ∧ V.slots.size = len ∧ (∀ j, j < len → V.slots[j]? = some (.int (lo8 (cv A (o + j))))) ∧ (∀ (y : Addr) (c : Cell), y ≠ a → s.heap[y]? = some c → u.heap[y]? = some c) ∧ u.heap.size = s.heap.size + 1
theorem Got.mv {a : Addr} {D A : Cell} {fV fC : Field} {o len : Nat} : ∀ r (U U' V V' : State), U'.heap = U.heap → V.vm.Alike V'.vm → V'.heap = V.heap → Got a D fV fC A o len r U V → Got a D fV fC A o len r U' V' :=
  fun r U U' V V' h1 hal h2 ⟨e0, D', X, a1, a2, a3, a4, a5, a6, a7, a8, a9, a10, a11⟩ => ⟨e0, D', X, a1.mv hal h2, a2, by rw [h1]; exact a3, a4, by rw [h1]; exact a5.mv hal h2, a6, by rw [hal.findClass]; exact a7, a8, a9, by rw [h1, h2]; exact a10, by rw [h1, h2]; exact a11⟩
namespace New4
def yN : MethodName := ⟨"java/lang/String", "<init>", "([CIILjava/lang/Void;)V"⟩
abbrev yB : ByteArray := jdk_42_method_149_code
theorem d0 : decode yB 0 = .ok (.aload_n 0, 1) := by decide +kernel
theorem d1 : decode yB 1 = .ok (.invokespecial 1, 3) := by decide +kernel
theorem d4 : decode yB 4 = .ok (.iload_n 3, 1) := by decide +kernel
theorem d5 : decode yB 5 = .ok (.ifCond (.ne) 22, 3) := by decide +kernel
theorem d27 : decode yB 27 = .ok (.getstatic 38, 3) := by decide +kernel
theorem d30 : decode yB 30 = .ok (.ifCond (.eq) 28, 3) := by decide +kernel
theorem d33 : decode yB 33 = .ok (.aload_n 1, 1) := by decide +kernel
theorem d34 : decode yB 34 = .ok (.iload_n 2, 1) := by decide +kernel
theorem d35 : decode yB 35 = .ok (.iload_n 3, 1) := by decide +kernel
theorem d36 : decode yB 36 = .ok (.invokestatic 177, 3) := by decide +kernel
theorem d39 : decode yB 39 = .ok (.astore 5, 2) := by decide +kernel
theorem d41 : decode yB 41 = .ok (.aload_n 0, 1) := by decide +kernel
theorem d42 : decode yB 42 = .ok (.aload 5, 2) := by decide +kernel
theorem d44 : decode yB 44 = .ok (.iload_n 3, 1) := by decide +kernel
theorem d45 : decode yB 45 = .ok (.invokestatic 47, 3) := by decide +kernel
theorem d48 : decode yB 48 = .ok (.putfield 15, 3) := by decide +kernel
theorem d51 : decode yB 51 = .ok (.aload_n 0, 1) := by decide +kernel
theorem d52 : decode yB 52 = .ok (.aload 5, 2) := by decide +kernel
theorem d54 : decode yB 54 = .ok (.putfield 9, 3) := by decide +kernel
theorem d57 : decode yB 57 = .ok (.return_, 1) := by decide +kernel
def site : List Cond := [.fieldLink "java/lang/String" 38 "java/lang/String" "COMPACT_STRINGS" "Z", Cmp3.tab, CodL.tab, .laysFinal "java/lang/String" "java/lang/String" "value" "[B", .fieldLink "java/lang/String" 9 "java/lang/String" "value" "[B", .laysFinal "java/lang/String" "java/lang/String" "coder" "B", .fieldLink "java/lang/String" 15 "java/lang/String" "coder" "B"] ++ objW "java/lang/String" 1 ++ staticW "java/lang/String" 177 Cmp3.yN ++ staticW "java/lang/String" 47 CodL.yN
def tab : Cond := tabOf yN yB 6 none site
def P (a : Addr) (D : Cell) (fV fC : Field) (b : Addr) (A : Cell) (z : Int32) (o len : Nat) (args : Array Value) (s : State) : Prop := args = #[.ref a, .ref b, .int (Int32.ofNat o), .int (Int32.ofNat len), .null] ∧ Blank "java/lang/String" a D s ∧ Found "java/lang/String" "value" "[B" fV s ∧ Found "java/lang/String" "coder" "B" fC s ∧ Ch b A s ∧ StaticIs s "java/lang/String" "COMPACT_STRINGS" "Z" (.int z) ∧ ¬ z = 0 ∧ 0 < len ∧ o + len ≤ A.slots.size ∧ len ≤ 536870912 ∧ ∀ i, i < len → ¬ 255 < cv A (o + i)
def E (a : Addr) (D : Cell) (fV fC : Field) (A : Cell) (o len : Nat) (r : Option Value) (s u : State) : Prop := Got a D fV fC A o len r s u
/-- len > 0, no char of the range above 255: a Latin-1 String of their low bytes -/
theorem law (l : Launch) (a : Addr) (D : Cell) (fV fC : Field) (b : Addr) (A : Cell) (z : Int32) (o len : Nat) : Law l yN 5 4 2 35 yB 6 none site (P a D fV fC b A z o len) (E a D fV fC A o len) [⟨a, fC.slot⟩, ⟨a, fV.slot⟩] 1 len := by
  refine Law.of_walk (plainFor_of_name (by decide +kernel)) (by decide +kernel) (by decide +kernel) (by decide) (fun _ _ h => by rw [h.1]; rfl) (fun _ U U' hal hh h => ⟨h.1, h.2.1.mv hal hh, h.2.2.1.al hal, h.2.2.2.1.al hal, h.2.2.2.2.1.mv hal hh, h.2.2.2.2.2.1.there hal hh, h.2.2.2.2.2.2⟩) (fun r U U' V V' h1 hal h2 h => Got.mv r U U' V V' h1 hal h2 h) ?_
  intro p e s m args below meth c s₁ X0 hexec hbytes hml hret hlk hnm hown hh0 W hP
  obtain ⟨rfl, hB, f1, f2, hA, s1, hz, l0, l1, l2, hp⟩ := hP
  have a31 := hA.1.2.2.2
  have c1 : Steps p.tables e below (s₁.setTop (entryFrame m #[.ref a, .ref b, .int (Int32.ofNat o), .int (Int32.ofNat len), .null] 6)) (s₁.setTop (mkF m 0 #[.val (.ref a), .val (.ref b), .val (.int (Int32.ofNat o)), .val (.int (Int32.ofNat len)), .val .null, .unset] [])) := entry rfl
  have c2 : Steps p.tables e below (s₁.setTop (entryFrame m #[.ref a, .ref b, .int (Int32.ofNat o), .int (Int32.ofNat len), .null] 6)) (s₁.setTop (mkF m 1 #[.val (.ref a), .val (.ref b), .val (.int (Int32.ofNat o)), .val (.int (Int32.ofNat len)), .val .null, .unset] [.ref a])) := c1.trans (by
    refine XS.aloadN X0.here hexec rfl (hb hbytes d0) rfl rfl ?_
    exact Steps.refl _)
  obtain ⟨T3, X3, q3, st3⟩ := X0.oinit hexec hown (wks W (objW "java/lang/String" 1)) (g := (mkF m 1 #[.val (.ref a), .val (.ref b), .val (.int (Int32.ofNat o)), .val (.int (Int32.ofNat len)), .val .null, .unset] [.ref a])) rfl (by rw [hml]; rfl) (rest := []) rfl (hb hbytes d1) (W := 0) (by show 2 * 0 + 0 ≤ _; decide) (Nat.le_of_ble_eq_true rfl) (Nat.le_of_ble_eq_true rfl)
  have hh3 := q3.trans hh0
  have c4 : Steps p.tables e below (s₁.setTop (entryFrame m #[.ref a, .ref b, .int (Int32.ofNat o), .int (Int32.ofNat len), .null] 6)) (T3.setTop (mkF m 27 #[.val (.ref a), .val (.ref b), .val (.int (Int32.ofNat o)), .val (.int (Int32.ofNat len)), .val .null, .unset] [])) := (c2.trans (st3 _ (Steps.refl _))).trans (by
    refine XS.iloadN X3.here hexec rfl (hb hbytes d4) rfl ?_
    refine XS.ifYes X3.here hexec rfl (pc0 := 5) rfl (hb hbytes d5) rfl (i0_ne_t (nz32 (by omega) l0)) (by decide) rfl ?_
    exact Steps.refl _)
  obtain ⟨T5, X5, q5, st5⟩ := X3.sget hexec hown (wk W (.fieldLink "java/lang/String" 38 "java/lang/String" "COMPACT_STRINGS" "Z")) s1 (fun _ _ h => by rw [hh3]; exact h) (g := (mkF m 27 #[.val (.ref a), .val (.ref b), .val (.int (Int32.ofNat o)), .val (.int (Int32.ofNat len)), .val .null, .unset] [])) rfl (hb hbytes d27)
  have hh5 := q5.trans hh3
  have c6 : Steps p.tables e below (s₁.setTop (entryFrame m #[.ref a, .ref b, .int (Int32.ofNat o), .int (Int32.ofNat len), .null] 6)) (T5.setTop (mkF m 30 #[.val (.ref a), .val (.ref b), .val (.int (Int32.ofNat o)), .val (.int (Int32.ofNat len)), .val .null, .unset] [.int z])) := c4.trans (st5 _ (Steps.refl _))
  have c7 : Steps p.tables e below (s₁.setTop (entryFrame m #[.ref a, .ref b, .int (Int32.ofNat o), .int (Int32.ofNat len), .null] 6)) (T5.setTop (mkF m 36 #[.val (.ref a), .val (.ref b), .val (.int (Int32.ofNat o)), .val (.int (Int32.ofNat len)), .val .null, .unset] [.int (Int32.ofNat len), .int (Int32.ofNat o), .ref b])) := c6.trans (by
    refine XS.ifNo X5.here hexec rfl (hb hbytes d30) rfl (i0_eq_f hz) ?_
    refine XS.aloadN X5.here hexec rfl (hb hbytes d33) rfl rfl ?_
    refine XS.iloadN X5.here hexec rfl (hb hbytes d34) rfl ?_
    refine XS.iloadN X5.here hexec rfl (hb hbytes d35) rfl ?_
    exact Steps.refl _)
  obtain ⟨v8, T8, X8, E8, g8⟩ := X5.callS hexec (Cmp3.law l b A o len) hown (wks W (staticW "java/lang/String" 177 Cmp3.yN)) (wk W Cmp3.tab) (W := 0) (Nat.le_of_ble_eq_true rfl) (Nat.le_of_ble_eq_true rfl) (Nat.le_refl _) (by show 0 + len ≤ len; omega) (g := (mkF m 36 #[.val (.ref a), .val (.ref b), .val (.int (Int32.ofNat o)), .val (.int (Int32.ofNat len)), .val .null, .unset] [.int (Int32.ofNat len), .int (Int32.ofNat o), .ref b])) rfl (by rw [hml]; rfl) c7 (argsL := [.ref b, .int (Int32.ofNat o), .int (Int32.ofNat len)]) (rest := []) rfl rfl (by show 2 * 0 + 0 ≤ _; decide) (hb hbytes d36) (⟨rfl, hA.mv X5.warmed.alike hh5, l1, l2, hp⟩)
  obtain ⟨e8, z8⟩ := E8
  obtain ⟨rfl, N, n1, n2, n3, n4, n5, n6⟩ := NewArr.mv _ T5 s _ _ hh5.symm (Vm.Alike.refl _) rfl e8
  rw [hh5] at z8
  have hB1 := hB.keep X8.warmed.alike (n6 _ _ hB.1)
  have hne : s.heap.size ≠ a := (Nat.ne_of_lt (Array.getElem?_eq_some_iff.mp hB.1).1).symm
  have c9 : Steps p.tables e below (s₁.setTop (entryFrame m #[.ref a, .ref b, .int (Int32.ofNat o), .int (Int32.ofNat len), .null] 6)) (T8.setTop (mkF m 39 #[.val (.ref a), .val (.ref b), .val (.int (Int32.ofNat o)), .val (.int (Int32.ofNat len)), .val .null, .unset] [.ref s.heap.size])) := g8
  have c10 : Steps p.tables e below (s₁.setTop (entryFrame m #[.ref a, .ref b, .int (Int32.ofNat o), .int (Int32.ofNat len), .null] 6)) (T8.setTop (mkF m 45 #[.val (.ref a), .val (.ref b), .val (.int (Int32.ofNat o)), .val (.int (Int32.ofNat len)), .val .null, .val (.ref s.heap.size)] [.int (Int32.ofNat N.slots.size), .ref s.heap.size, .ref a])) := by
    have hc : Steps p.tables e below (s₁.setTop (entryFrame m #[.ref a, .ref b, .int (Int32.ofNat o), .int (Int32.ofNat len), .null] 6)) (T8.setTop (mkF m 45 #[.val (.ref a), .val (.ref b), .val (.int (Int32.ofNat o)), .val (.int (Int32.ofNat len)), .val .null, .val (.ref s.heap.size)] [.int (Int32.ofNat len), .ref s.heap.size, .ref a])) := c9.trans (by
      refine XS.astore X8.here hexec rfl (hb hbytes d39) rfl rfl rfl ?_
      refine XS.aloadN X8.here hexec rfl (hb hbytes d41) rfl rfl ?_
      refine XS.aload X8.here hexec rfl (hb hbytes d42) rfl rfl ?_
      refine XS.iloadN X8.here hexec rfl (hb hbytes d44) rfl ?_
      exact Steps.refl _)
    rw [n4]; exact hc
  obtain ⟨v11, T11, X11, E11, g11⟩ := X8.callS hexec (CodL.law l s.heap.size N) hown (wks W (staticW "java/lang/String" 47 CodL.yN)) (wk W CodL.tab) (W := 1) (Nat.le_of_ble_eq_true rfl) (Nat.le_of_ble_eq_true rfl) (Nat.le_refl _) (by show 0 + len + 0 ≤ len; omega) (g := (mkF m 45 #[.val (.ref a), .val (.ref b), .val (.int (Int32.ofNat o)), .val (.int (Int32.ofNat len)), .val .null, .val (.ref s.heap.size)] [.int (Int32.ofNat N.slots.size), .ref s.heap.size, .ref a])) rfl (by rw [hml]; rfl) c10 (argsL := [.ref s.heap.size, .int (Int32.ofNat N.slots.size)]) (rest := [.ref a]) rfl rfl (by show 2 * 0 + (1 + 0) ≤ _; decide) (hb hbytes d45) (⟨rfl, n1⟩)
  obtain ⟨rfl, q11⟩ := E11
  have hB11 := hB1.mv (X8.warmed.alike.symm.trans X11.warmed.alike) q11
  have c12 : Steps p.tables e below (s₁.setTop (entryFrame m #[.ref a, .ref b, .int (Int32.ofNat o), .int (Int32.ofNat len), .null] 6)) (T11.setTop (mkF m 48 #[.val (.ref a), .val (.ref b), .val (.int (Int32.ofNat o)), .val (.int (Int32.ofNat len)), .val .null, .val (.ref s.heap.size)] [.int 0, .ref a])) := g11
  obtain ⟨T13, X13, p13, bl13, sl13, st13⟩ := X11.finit hexec hown (wk W (.fieldLink "java/lang/String" 15 "java/lang/String" "coder" "B")) (Or.inr ⟨_, (wk W (.laysFinal "java/lang/String" "java/lang/String" "coder" "B"))⟩) (Or.inl ⟨rfl, hnm⟩) f2 (Or.inl rfl) hB11 (t := .byte) (by decide +kernel) rfl (g := (mkF m 48 #[.val (.ref a), .val (.ref b), .val (.int (Int32.ofNat o)), .val (.int (Int32.ofNat len)), .val .null, .val (.ref s.heap.size)] [.int 0, .ref a])) rfl (rest := []) rfl (hb hbytes d48)
  have c14 : Steps p.tables e below (s₁.setTop (entryFrame m #[.ref a, .ref b, .int (Int32.ofNat o), .int (Int32.ofNat len), .null] 6)) (T13.setTop (mkF m 54 #[.val (.ref a), .val (.ref b), .val (.int (Int32.ofNat o)), .val (.int (Int32.ofNat len)), .val .null, .val (.ref s.heap.size)] [.ref s.heap.size, .ref a])) := (c12.trans (st13 _ (Steps.refl _))).trans (by
    refine XS.aloadN X13.here hexec rfl (hb hbytes d51) rfl rfl ?_
    refine XS.aload X13.here hexec rfl (hb hbytes d52) rfl rfl ?_
    exact Steps.refl _)
  obtain ⟨T15, X15, p15, bl15, sl15, st15⟩ := X13.finit hexec hown (wk W (.fieldLink "java/lang/String" 9 "java/lang/String" "value" "[B")) (Or.inr ⟨_, (wk W (.laysFinal "java/lang/String" "java/lang/String" "value" "[B"))⟩) (Or.inl ⟨rfl, hnm⟩) f1 (Or.inl rfl) bl13 (t := (.array .byte)) (by decide +kernel) rfl (g := (mkF m 54 #[.val (.ref a), .val (.ref b), .val (.int (Int32.ofNat o)), .val (.int (Int32.ofNat len)), .val .null, .val (.ref s.heap.size)] [.ref s.heap.size, .ref a])) rfl (rest := []) rfl (hb hbytes d54)
  have c16 : Steps p.tables e below (s₁.setTop (entryFrame m #[.ref a, .ref b, .int (Int32.ofNat o), .int (Int32.ofNat len), .null] 6)) (T15.setTop (mkF m 57 #[.val (.ref a), .val (.ref b), .val (.int (Int32.ofNat o)), .val (.int (Int32.ofNat len)), .val .null, .val (.ref s.heap.size)] [])) := c14.trans (st15 _ (Steps.refl _))
  have ap := apart (Or.inr ⟨_, (wk W (.laysFinal "java/lang/String" "java/lang/String" "value" "[B"))⟩) (Or.inr ⟨_, (wk W (.laysFinal "java/lang/String" "java/lang/String" "coder" "B"))⟩) f1 f2 (t₁ := .array .byte) (t₂ := .byte) (by decide +kernel) (by decide +kernel) (by decide)
  have al := X8.warmed.alike.symm.trans X15.warmed.alike
  have n7 : T11.heap[s.heap.size]? = some N := by rw [q11]; exact n1.1
  exact ⟨T15, none, _, _, _, X15, by simp, rfl, by omega, (fun _ => rfl), ⟨rfl, _, N, bl15, ((Same.refl D _).set _ (by simp)).set _ (by simp), sl15, (Cell.slots_setSlot_ne _ ap).trans sl13, n1.keep al (p15.other hne (p13.other hne n7)), n2, by rw [al.findClass]; exact n3, n4, n5, fun y c h1 h2 => p15.other h1 (p13.other h1 (by rw [q11]; exact n6 y c h2)), by rw [p15.2.2, p13.2.2, q11]; exact z8⟩, fun fs hl => c16.trans (X15.returnOut hexec hret (hb hbytes d57) hl)⟩
end New4
namespace New1
def yN : MethodName := ⟨"java/lang/String", "<init>", "([C)V"⟩
abbrev yB : ByteArray := jdk_42_method_3_code
theorem d0 : decode yB 0 = .ok (.aload_n 0, 1) := by decide +kernel
theorem d1 : decode yB 1 = .ok (.aload_n 1, 1) := by decide +kernel
theorem d2 : decode yB 2 = .ok (.iconst 0, 1) := by decide +kernel
theorem d3 : decode yB 3 = .ok (.aload_n 1, 1) := by decide +kernel
theorem d4 : decode yB 4 = .ok (.arraylength, 1) := by decide +kernel
theorem d5 : decode yB 5 = .ok (.aconst_null, 1) := by decide +kernel
theorem d6 : decode yB 6 = .ok (.invokespecial 27, 3) := by decide +kernel
theorem d9 : decode yB 9 = .ok (.return_, 1) := by decide +kernel
def site : List Cond := [New4.tab] ++ initW "java/lang/String" 27 New4.yN
def tab : Cond := tabOf yN yB 2 none site
def P (a : Addr) (D : Cell) (fV fC : Field) (b : Addr) (A : Cell) (z : Int32) (args : Array Value) (s : State) : Prop := args = #[.ref a, .ref b] ∧ Blank "java/lang/String" a D s ∧ Found "java/lang/String" "value" "[B" fV s ∧ Found "java/lang/String" "coder" "B" fC s ∧ Ch b A s ∧ StaticIs s "java/lang/String" "COMPACT_STRINGS" "Z" (.int z) ∧ ¬ z = 0 ∧ 0 < A.slots.size ∧ A.slots.size ≤ 536870912 ∧ ∀ i, i < A.slots.size → ¬ 255 < cv A i
def E (a : Addr) (D : Cell) (fV fC : Field) (A : Cell) (r : Option Value) (s u : State) : Prop := Got a D fV fC A 0 A.slots.size r s u
/-- new String(chars), not empty, no char above 255: a Latin-1 String of their low bytes -/
theorem law (l : Launch) (a : Addr) (D : Cell) (fV fC : Field) (b : Addr) (A : Cell) (z : Int32) : Law l yN 2 1 3 52 yB 2 none site (P a D fV fC b A z) (E a D fV fC A) [⟨a, fC.slot⟩, ⟨a, fV.slot⟩] 1 A.slots.size := by
  refine Law.of_walk (plainFor_of_name (by decide +kernel)) (by decide +kernel) (by decide +kernel) (by decide) (fun _ _ h => by rw [h.1]; rfl) (fun _ U U' hal hh h => ⟨h.1, h.2.1.mv hal hh, h.2.2.1.al hal, h.2.2.2.1.al hal, h.2.2.2.2.1.mv hal hh, h.2.2.2.2.2.1.there hal hh, h.2.2.2.2.2.2⟩) (fun r U U' V V' h1 hal h2 h => Got.mv r U U' V V' h1 hal h2 h) ?_
  intro p e s m args below meth c s₁ X0 hexec hbytes hml hret hlk hnm hown hh0 W hP
  obtain ⟨rfl, hB, f1, f2, hA, s1, hz, l0, l2, hp⟩ := hP
  have c1 : Steps p.tables e below (s₁.setTop (entryFrame m #[.ref a, .ref b] 2)) (s₁.setTop (mkF m 0 #[.val (.ref a), .val (.ref b)] [])) := entry rfl
  have c2 : Steps p.tables e below (s₁.setTop (entryFrame m #[.ref a, .ref b] 2)) (s₁.setTop (mkF m 6 #[.val (.ref a), .val (.ref b)] [.null, .int (Int32.ofNat A.slots.size), .int 0, .ref b, .ref a])) := c1.trans (by
    refine XS.aloadN X0.here hexec rfl (hb hbytes d0) rfl rfl ?_
    refine XS.aloadN X0.here hexec rfl (hb hbytes d1) rfl rfl ?_
    refine iconstV X0.here hexec rfl 0 (hb hbytes d2) (by decide) ?_
    refine XS.aloadN X0.here hexec rfl (hb hbytes d3) rfl rfl ?_
    refine X0.alen hexec (hA.1.mv X0.warmed.alike hh0) rfl rfl (hb hbytes d4) ?_
    refine XS.aconstNull X0.here hexec rfl (hb hbytes d5) ?_
    exact Steps.refl _)
  obtain ⟨v3, T3, X3, E3, g3⟩ := X0.callN hexec (New4.law l a D fV fC b A z 0 A.slots.size) rfl hown (wks W (initW "java/lang/String" 27 New4.yN)) (W New4.tab (by simp only [site, List.mem_cons, List.mem_append, true_or, or_true])) (W := 0) (Nat.le_of_ble_eq_true rfl) (Nat.le_of_ble_eq_true rfl) (Nat.le_refl _) (by show 0 + A.slots.size ≤ A.slots.size; omega) (g := (mkF m 6 #[.val (.ref a), .val (.ref b)] [.null, .int (Int32.ofNat A.slots.size), .int (Int32.ofNat 0), .ref b, .ref a])) rfl (by rw [hml]; rfl) c2 (argsL := [.ref b, .int (Int32.ofNat 0), .int (Int32.ofNat A.slots.size), .null]) (rest := []) rfl rfl (by show 2 * 0 + 0 ≤ _; decide) (hb hbytes d6) (⟨rfl, hB.mv X0.warmed.alike hh0, f1.al X0.warmed.alike, f2.al X0.warmed.alike, hA.mv X0.warmed.alike hh0, s1.there X0.warmed.alike hh0, hz, l0, by omega, l2, fun i hi => by rw [Nat.zero_add]; exact hp i hi⟩)
  have e0 := Got.mv _ s₁ s _ _ hh0.symm (Vm.Alike.refl _) rfl E3
  obtain rfl := e0.1
  have c4 : Steps p.tables e below (s₁.setTop (entryFrame m #[.ref a, .ref b] 2)) (T3.setTop (mkF m 9 #[.val (.ref a), .val (.ref b)] [])) := g3
  exact ⟨T3, none, _, _, _, X3, by simp, rfl, by omega, (fun _ => rfl), e0, fun fs hl => c4.trans (X3.returnOut hexec hret (hb hbytes d9) hl)⟩
theorem pays {l : Launch} {R : Room} {p : Program} {e : Env} {below : List Frame} {s : State} {sargs : Array Value} {len W : Nat} (a : Addr) (D : Cell) (fV fC : Field) (b : Addr) (A : Cell) (z : Int32) (htab : tab.before sargs s = true) (hfr : 4 ≤ R.frames) (hlo : W + 65 ≤ R.locals) :
    Back l R p e below s sargs yN len W (fun A₁ a₁ => A₁.cells + 1 ≤ R.cells ∧ A₁.slots + A.slots.size ≤ R.slots ∧ P a D fV fC b A z a₁ A₁.U) (fun A₁ _ v₁ B₁ => E a D fV fC A v₁ A₁.U B₁.U ∧ B₁.locs = A₁.locs ++ [⟨a, fC.slot⟩, ⟨a, fV.slot⟩] ∧ B₁.cells = A₁.cells + 1 ∧ B₁.slots = A₁.slots + A.slots.size) :=
  (law l a D fV fC b A z).pays htab hfr (by omega)
end New1
/-- the byte, read back as charAt reads it, is the char -/
theorem lo8_mask {x : Int32} (h0 : ¬ x < 0) (h1 : ¬ 255 < x) : lo8 x &&& 255 = x := by
  have t : ∀ k : Fin 256, lo8 (Int32.ofNat k.val) &&& 255 = Int32.ofNat k.val := by decide +kernel
  rw [Int32.lt_iff_toInt_lt] at h0 h1
  have e0 : (0 : Int32).toInt = 0 := rfl
  have e1 : (255 : Int32).toInt = 255 := rfl
  obtain ⟨k, hk⟩ : ∃ k : Nat, x.toInt = k := ⟨x.toInt.toNat, by omega⟩
  have hx : x = Int32.ofNat k := Int32.toInt_inj.mp (by rw [hk, Int32.toInt_ofNat_small (by omega)])
  rw [hx]
  exact t ⟨k, by omega⟩
end StrChars
namespace StrChars.Road
open Jvm Sem ClassFile Op Lib Jvm.Stand Jvm.Free Jvm.Free.XT
open Jvm.Lib.Cold (StaticIs)
abbrev ST : String := "java/lang/String"
/-- every table word that New1's law asks, flat -/
abbrev words : List Jvm.Cond := [.code New1.yN New1.yB 2 none, .initialized ST, .methodLink ST 27 New4.yN, .instanceMethod New4.yN,
  .code New4.yN New4.yB 6 none, .fieldLink ST 38 ST "COMPACT_STRINGS" "Z", .laysFinal ST ST "value" "[B", .fieldLink ST 9 ST "value" "[B", .laysFinal ST ST "coder" "B", .fieldLink ST 15 ST "coder" "B",
  .methodLink ST 1 Lib.objectInit, .instanceMethod Lib.objectInit, .code Lib.objectInit ⟨#[0xb1]⟩ 1 none, .methodLink ST 177 Cmp3.yN, .static Cmp3.yN, .methodLink ST 47 CodL.yN, .static CodL.yN,
  .code Cmp3.yN Cmp3.yB 6 (some (.array .byte)), .initialized U16, .arrayClass .byte, .methodLink U16 115 Cmp5.yN, .static Cmp5.yN, .code Cmp5.yN Cmp5.yB 7 (some .int), .code CodL.yN CodL.yB 2 (some .byte)]
theorem tab_of {a : Array Value} {s : State} (h : ∀ w ∈ words, w.before a s = true) : New1.tab.before a s = true := by
  have h5 : Cmp5.tab.before a s = true := unparts (wk h (.code Cmp5.yN Cmp5.yB 7 (some .int))) (wks h (.initialized Cmp5.yN.cls :: Cmp5.site))
  have hc : CodL.tab.before a s = true := unparts (wk h (.code CodL.yN CodL.yB 2 (some .byte))) (wks h (.initialized CodL.yN.cls :: CodL.site))
  have q5 : ∀ w ∈ Cmp5.tab :: words, w.before a s = true := fun w hw => (List.mem_cons.mp hw).elim (fun e => e ▸ h5) (h w)
  have h3 : Cmp3.tab.before a s = true := unparts (wk q5 (.code Cmp3.yN Cmp3.yB 6 (some (.array .byte)))) (wks q5 (.initialized Cmp3.yN.cls :: Cmp3.site))
  have q3 : ∀ w ∈ Cmp3.tab :: CodL.tab :: words, w.before a s = true := fun w hw => (List.mem_cons.mp hw).elim (fun e => e ▸ h3) fun hw => (List.mem_cons.mp hw).elim (fun e => e ▸ hc) (h w)
  have h4 : New4.tab.before a s = true := unparts (wk q3 (.code New4.yN New4.yB 6 none)) (wks q3 (.initialized New4.yN.cls :: New4.site))
  have q4 : ∀ w ∈ New4.tab :: words, w.before a s = true := fun w hw => (List.mem_cons.mp hw).elim (fun e => e ▸ h4) (h w)
  exact unparts (wk q4 (.code New1.yN New1.yB 2 none)) (wks q4 (.initialized New1.yN.cls :: New1.site))
/-- the words ride from the start Z to the walk's own state -/
theorem moved {Z s : State} {a0 args : Array Value} (hZ : Z.Warmed39 s.vm) (hw : ∀ d ∈ words, d.before a0 Z = true) : ∀ d ∈ words, d.before args s = true := fun d hd => by
  have q := hw d hd
  have t : ∀ d ∈ words, d = .arrayClass .byte ∨ (d.onTables && d.keepsFace) = true := by decide +kernel
  rcases t d hd with rfl | t
  · exact RoadKit.mvA hZ q
  · exact RoadKit.mv hZ q t
/-- WHAT COMES BACK, over the tables of the start Z: h the heap at the call, h' behind it -/
def Q (Z : State) (x : Addr) (A : Cell) (h : Heap) (v : Option Value) (h' : Heap) (L : List Loc) : Prop := v = none ∧ (∀ y ∈ L, y.base = x) ∧ RoadKit.Keep h h' [x] ∧ h'.size = h.size + 1 ∧ RoadKit.Exa Z h' x ST ∧ RoadKit.Fld Z h' x ST "value" "[B" (.ref h.size) ∧ RoadKit.Fld Z h' x ST "coder" "B" (.int 0) ∧
  (∃ V : Cell, RoadKit.Arr Z h' h.size V .byte ∧ V.vm = .none ∧ Z.vm.findClass "[B" = some V.cls ∧ V.slots.size = A.slots.size ∧ ∀ j, j < A.slots.size → V.slots[j]? = some (.int (lo8 (cv A j)))) ∧
  ∀ (O n d : String) (w : Value), RoadKit.Fld Z h x O n d w → RoadKit.slotOf Z O n d ≠ RoadKit.slotOf Z ST "value" "[B" → RoadKit.slotOf Z O n d ≠ RoadKit.slotOf Z ST "coder" "B" → RoadKit.Fld Z h' x O n d w
/-- **new String(chars) AT A CALL, IN THE ROAD'S FORM**: for specialBack behind newO: x the fresh String, b the char[] with the cell A -/
theorem back {p : Program} {l : Launch} {e : Env} {R : Room} {s : State} {args : Array Value} {below : List Frame} {len W : Nat} {Z : State} {a0 : Array Value} {h : Heap} (hZ : Z.Warmed39 s.vm) (hw : ∀ d ∈ words, d.before a0 Z = true) {kI : Nat} (wi : (Jvm.Cond.instantiable ST kI).before a0 Z = true)
    {x b : Addr} {A : Cell} {z : Int32} {v0 c0 : Value} (E : RoadKit.Exa Z h x ST) (V : RoadKit.Fld Z h x ST "value" "[B" v0) (C : RoadKit.Fld Z h x ST "coder" "B" c0) (K : RoadKit.Arr Z h b A .char) (hty : Typed .char A) (S : RoadKit.Sta Z h ST "COMPACT_STRINGS" "Z" (.int z)) (hz : ¬ z = 0)
    (l0 : 0 < A.slots.size) (l2 : A.slots.size ≤ 536870912) (hp : ∀ i, i < A.slots.size → ¬ 255 < cv A i) (hfr : 4 ≤ R.frames) (hlo : W + 65 ≤ R.locals) :
    Back l R p e below s args New1.yN len W (fun P a => a = #[.ref x, .ref b] ∧ P.U.heap = h ∧ P.cells + 1 ≤ R.cells ∧ P.slots + A.slots.size ≤ R.slots)
      (fun P _ v B => ∃ L, Q Z x A h v B.U.heap L ∧ B.locs = P.locs ++ L ∧ B.cells = P.cells + 1 ∧ B.slots = P.slots + A.slots.size) := by
  intro m meth c P g ig mk a X hg hsize hdg hW hn hp'
  obtain ⟨rfl, rfl, r1, r2⟩ := hp'
  have al : Z.vm.Alike P.U.vm := hZ.alike.trans X.warmed.alike
  obtain ⟨D, cfV, kV, iV, fV, hD, gV, stV, knV, obV, asV, slV⟩ := id V
  obtain ⟨D', cfC, kC, iC, fC, hD', gC, stC, -, -, asC, slC⟩ := id C
  cases hD.symm.trans hD'
  obtain ⟨D2, kD, e1, e2, e3, e4, e5⟩ := id E
  cases hD.symm.trans e1
  obtain ⟨c2, k2, i1, i2, i3, -⟩ := Cond.instantiable_spec wi
  cases e2.symm.trans i1
  cases e3.symm.trans i2
  obtain ⟨kU, u1, u2⟩ := al.2.2 _ _ e3
  have hB : Blank ST x D P.U := ⟨hD, ⟨knV, fun q hq => by rw [hq] at obV; cases obV⟩, by rw [al.findClass]; exact e2, kU, u1, by rw [u2]; exact i3, by rw [u2]; exact e5 i3⟩
  have F1 : Found ST "value" "[B" fV P.U := ⟨SBG.found_only al ⟨cfV, kV, iV, gV⟩, stV⟩
  have F2 : Found ST "coder" "B" fC P.U := ⟨SBG.found_only al ⟨cfC, kC, iC, gC⟩, stC⟩
  have hA : Ch b A P.U := ⟨⟨K.1, State.isArrayOf_alike al K.2.1, K.2.2, by omega⟩, hty⟩
  have hS : StaticIs P.U ST "COMPACT_STRINGS" "Z" (.int z) := by
    obtain ⟨cfS, iS, kS, fS, st, cS, t1, t2, t3, t4, t5, t6, t7⟩ := S
    exact StaticIs.there (s := { Z with heap := P.U.heap }) ⟨cfS, iS, kS, fS, st, cS, t1, t2, t3, t4, t5, (fun q => by rw [q] at t6; cases t6), t7⟩ al rfl
  obtain ⟨v, B, X', ⟨⟨hv, E', V', q1, q2, q3, q4, q5, q6, q7, q8, q9, q10, q11⟩, hl, hc, hs⟩, st⟩ := New1.pays x D fV fC b A z (tab_of (moved hZ hw)) hfr hlo m meth c P g ig mk _ X hg hsize hdg hW hn ⟨r1, r2, rfl, hB, F1, F2, hA, hS, hz, l0, l2, hp⟩
  have al' : Z.vm.Alike B.U.vm := hZ.alike.trans X'.warmed.alike
  have hsz : E'.slots.size = D.slots.size := by
    obtain ⟨-, -, -, kB, w1, w2, w3⟩ := q1
    obtain ⟨kB', y1, y2⟩ := al'.2.2 _ _ e3
    rw [q2.2.1] at w1
    cases w1.symm.trans y1
    rw [w3, e5 i3, y2]
  refine ⟨v, B, X', ⟨_, ⟨hv, ?_, ⟨by omega, fun y cy hy hn' => q10 y cy (by simpa using hn') hy, fun y cy hy => ?_⟩, q11, ⟨E', _, q1.1, by rw [q2.2.1]; exact e2, by rw [q2.2.1]; exact e3, by rw [q2.1]; exact obV, fun _ => by rw [hsz]; exact e5 i3⟩,
    ⟨E', cfV, kV, iV, fV, q1.1, gV, stV, by rw [q2.1]; exact knV, by rw [q2.1]; exact obV, by rw [q2.2.1]; exact asV, q3⟩, ⟨E', cfC, kC, iC, fC, q1.1, gC, stC, by rw [q2.1]; exact knV, by rw [q2.1]; exact obV, by rw [q2.2.1]; exact asC, q4⟩,
    ⟨V', ⟨q5.1, State.isArrayOf_alike al'.symm q5.2.1, q5.2.2.1⟩, q6, by rw [← al'.findClass]; exact q7, q8, fun j hj => by have := q9 j hj; rwa [Nat.zero_add] at this⟩, fun O n d w F n1 n2 => ?_⟩, hl, hc, hs⟩, st⟩
  · intro y hy
    simp only [List.mem_cons, List.not_mem_nil, or_false] at hy
    rcases hy with rfl | rfl <;> rfl
  · by_cases q : y = x
    · subst q
      cases hD.symm.trans hy
      exact ⟨E', q1.1, q2.2.1, q2.1, hsz⟩
    · exact ⟨cy, q10 y cy q hy, rfl, rfl, rfl⟩
  · obtain ⟨D3, cf, k, i, f, g1, g2, g3, g4, g5, g6, g7⟩ := F
    cases hD.symm.trans g1
    simp only [RoadKit.slotOf, g2, gV, gC, Option.map_some, Option.getD_some] at n1 n2
    exact ⟨E', cf, k, i, f, q1.1, g2, g3, by rw [q2.1]; exact g4, by rw [q2.1]; exact g5, by rw [q2.2.1]; exact g6, by rw [q2.2.2 f.slot (by simp [n1, n2])]; exact g7⟩
end StrChars.Road
namespace StrChars.Road
open Jvm Sem ClassFile Op Lib Jvm.Stand Jvm.Free Jvm.Free.XT
/-- WHAT COMES BACK, the byte[] as a list of values -/
def QA (Z : State) (x : Addr) (zn : Int32) (cs : List Int32) (h : Heap) (v : Option Value) (h' : Heap) (L : List Loc) : Prop := v = none ∧ (∀ y ∈ L, y.base = x) ∧ RoadKit.Keep h h' [x] ∧ h'.size = h.size + 1 ∧ RoadKit.Exa Z h' x ST ∧ RoadKit.Fld Z h' x ST "value" "[B" (.ref h.size) ∧ RoadKit.Fld Z h' x ST "coder" "B" (.int 0) ∧
  (∃ kb, Z.vm.findClass "[B" = some kb ∧ RoadKit.Arv Z h' h.size kb .byte zn (cs.map fun c => .int (lo8 c)) (.int 0)) ∧
  ∀ (O n d : String) (w : Value), RoadKit.Fld Z h x O n d w → RoadKit.slotOf Z O n d ≠ RoadKit.slotOf Z ST "value" "[B" → RoadKit.slotOf Z O n d ≠ RoadKit.slotOf Z ST "coder" "B" → RoadKit.Fld Z h' x O n d w
/-- **new String(chars) AT A CALL, THE ARRAYS AS LISTS**: the char[] at b holds cs, not empty, no char above 255 -/
theorem backArv {p : Program} {l : Launch} {e : Env} {R : Room} {s : State} {args : Array Value} {below : List Frame} {len W : Nat} {Z : State} {a0 : Array Value} {h : Heap} (hZ : Z.Warmed39 s.vm) (hw : ∀ d ∈ words, d.before a0 Z = true) {kI : Nat} (wi : (Jvm.Cond.instantiable ST kI).before a0 Z = true)
    {x b : Addr} {k : ClassId} {zn z : Int32} {cs : List Int32} {dv v0 c0 : Value} (E : RoadKit.Exa Z h x ST) (V : RoadKit.Fld Z h x ST "value" "[B" v0) (C : RoadKit.Fld Z h x ST "coder" "B" c0) (K : RoadKit.Arv Z h b k .char zn (cs.map Value.int) dv) (S : RoadKit.Sta Z h ST "COMPACT_STRINGS" "Z" (.int z)) (hz : ¬ z = 0)
    (hlen : zn.toNatClampNeg = cs.length) (h0 : 0 < cs.length) (hbig : cs.length ≤ 536870912) (hall : ∀ c ∈ cs, ¬ 255 < c) (hfr : 4 ≤ R.frames) (hlo : W + 65 ≤ R.locals) :
    Back l R p e below s args New1.yN len W (fun P a => a = #[.ref x, .ref b] ∧ P.U.heap = h ∧ P.cells + 1 ≤ R.cells ∧ P.slots + cs.length ≤ R.slots)
      (fun P _ v B => ∃ L, QA Z x zn cs h v B.U.heap L ∧ B.locs = P.locs ++ L ∧ B.cells = P.cells + 1 ∧ B.slots = P.slots + cs.length) := by
  obtain ⟨A, K1, K2, K3, K4, K5, K6⟩ := K
  have e : A.slots.size = cs.length := K3.trans hlen
  have hat : ∀ (i : Nat) (hi : i < cs.length), A.slots[i]? = some (.int cs[i]) := fun i hi => by rw [K5 i (by omega)]; simp [List.getD_eq_getElem?_getD, hi]
  have hcv : ∀ (i : Nat) (hi : i < cs.length), cv A i = cs[i] := fun i hi => by unfold cv; rw [hat i hi]
  have hty : Typed .char A := fun i v hv => by
    have hi : i < A.slots.size := (Array.getElem?_eq_some_iff.mp hv).1
    have q := K5 i hi
    rw [hv] at q
    rw [Option.some.inj q]
    exact K6 i hi
  refine Back.mono (back hZ hw wi E V C K1 hty S hz (by omega) (by omega) (fun i hi => by rw [hcv i (by omega)]; exact hall _ (List.getElem_mem _)) hfr hlo) (fun P a hp => ⟨hp.1, hp.2.1, hp.2.2.1, by rw [e]; exact hp.2.2.2⟩) (fun P a v B hp hq => ?_)
  obtain ⟨L, ⟨q1, q2, q3, q4, q5, q6, q7, ⟨V', v1, v2, v3, v4, v5⟩, q9⟩, hl, hc, hs⟩ := hq
  refine ⟨L, ⟨q1, q2, q3, q4, q5, q6, q7, ⟨V'.cls, v3, V', v1, rfl, by rw [v4, e, hlen], K4, fun i hi => ?_, fun i hi => ?_⟩, q9⟩, hl, hc, by rw [hs, e]⟩
  · have hi' : i < cs.length := by omega
    rw [v5 i (by omega), hcv i hi']; simp [List.getD_eq_getElem?_getD, hi']
  · have hi' : i < cs.length := by omega
    simp only [List.getD_eq_getElem?_getD, List.getElem?_map, List.getElem?_eq_getElem hi', Option.map_some, Option.getD_some]
    exact fits_lo8 _
end StrChars.Road
namespace StrChars.Road
open Jvm Sem ClassFile Op Lib Jvm.Stand Jvm.Free Jvm.Free.XT
/-- WHAT COMES BACK, in the writer's own shape -/
def QV (Z : State) (x : Addr) (N : Int32) (bs : List Int32) (h : Heap) (n0 : Nat) (v : Option Value) (h' : Heap) (L : List Loc) : Prop := v = none ∧ RoadKit.Fr n0 L ∧ RoadKit.Keep h h' [x] ∧ RoadKit.Exa Z h' x ST ∧ RoadKit.Fld Z h' x ST "coder" "B" (.int 0) ∧
  ∃ (t : Addr) (kb : ClassId), n0 ≤ t ∧ h.size ≤ t ∧ ¬ t = x ∧ RoadKit.Fld Z h' x ST "value" "[B" (.ref t) ∧ RoadKit.Arv Z h' t kb .byte N (bs.map Value.int) (.int 0)
/-- **new String(chars) AT A CALL, FOR THE WRITER**: a char[] of n known ints, each 0 to 255 -/
theorem backV {p : Program} {l : Launch} {e : Env} {R : Room} {s : State} {args : Array Value} {below : List Frame} {len W : Nat} {Z : State} {a0 : Array Value} {h : Heap} (hZ : Z.Warmed39 s.vm) (hw : ∀ d ∈ words, d.before a0 Z = true) {kI : Nat} (wi : (Jvm.Cond.instantiable ST kI).before a0 Z = true)
    {x b : Addr} {kC : ClassId} {cs bs : List Int32} {d v0 c0 : Value} {z N : Int32} {n n0 : Nat} (hx0 : n0 ≤ x) (hh0 : n0 ≤ h.size) (E : RoadKit.Exa Z h x ST) (V : RoadKit.Fld Z h x ST "value" "[B" v0) (C : RoadKit.Fld Z h x ST "coder" "B" c0) (K : RoadKit.Arv Z h b kC .char N (cs.map Value.int) d) (S : RoadKit.Sta Z h ST "COMPACT_STRINGS" "Z" (.int z)) (hz : ¬ z = 0)
    (hn : cs.length = n) (hN : N = Int32.ofNat n) (l0 : 0 < n) (l2 : n ≤ 4000) (hp : ∀ c ∈ cs, ¬ c < 0 ∧ ¬ (255 : Int32) < c) (hb : bs = cs.map (fun c => c.toInt8.toInt32)) (hfr : 4 ≤ R.frames) (hlo : W + 65 ≤ R.locals) :
    Back l R p e below s args (⟨"java/lang/String", "<init>", "([C)V"⟩ : MethodName) len W (fun P a => a = #[.ref x, .ref b] ∧ P.U.heap = h ∧ P.cells + 1 ≤ R.cells ∧ P.slots + n ≤ R.slots)
      (fun P _ v B => ∃ L, QV Z x N bs h n0 v B.U.heap L ∧ B.locs = P.locs ++ L ∧ B.cells = P.cells + 1 ∧ B.slots = P.slots + n) := by
  subst hn hN hb
  refine Back.mono (backArv hZ hw wi E V C K S hz (n32 (by omega)) l0 (by omega) (fun c hc => (hp c hc).2) hfr hlo) (fun P a hp => hp) (fun P a v B hp hq => ?_)
  obtain ⟨L, ⟨q1, q2, q3, q4, q5, q6, q7, ⟨kb, v1, v2⟩, q9⟩, hl, hc, hs⟩ := hq
  exact ⟨L, ⟨q1, fun y hy => by rw [q2 y hy]; exact hx0, q3, q5, q7, h.size, kb, hh0, Nat.le_refl _, Nat.ne_of_gt E.lt, q6, by rw [List.map_map]; exact v2⟩, hl, hc, hs⟩
end StrChars.Road
namespace StrChars
open Jvm Sem ClassFile Op Lib Jvm.Stand Jvm.Free.XT Jvm.Free.ALB Jvm.Free.JM Jvm.Free
open Jvm.Lib.Cold (StaticIs)
def hi8 (x : Int32) : Int32 := lo8 (x >>> ((8 : Int32) &&& 31))
/-- what StringUTF16.getChar makes of two bytes -/
def pairCh (u v : Int32) : Int32 := (((u &&& 255) <<< ((0 : Int32) &&& 31)) ||| ((v &&& 255) <<< ((8 : Int32) &&& 31))).toUInt32.toUInt16.toUInt32.toInt32
theorem lo8_and (x : Int32) : (lo8 x &&& 255).toBitVec.toNat = x.toBitVec.toNat % 256 := by
  have h : (lo8 x).toBitVec = (x.toBitVec.signExtend 8).signExtend 32 := by rw [lo8, Int8.toBitVec_toInt32, Int32.toBitVec_toInt8]
  rw [Int32.toBitVec_and, BitVec.toNat_and, h]
  have e : ((x.toBitVec.signExtend 8).signExtend 32).toNat % 256 = x.toBitVec.toNat % 256 := by
    rw [BitVec.toNat_signExtend]
    have hlt := x.toBitVec.isLt
    simp only [BitVec.toNat_setWidth, BitVec.toNat_signExtend]
    split <;> split <;> omega
  rw [← e]
  exact Nat.and_two_pow_sub_one_eq_mod _ 8
theorem pair_says {c : Int32} (h0 : ¬ c < 0) (h1 : ¬ 65535 < c) : pairCh (lo8 c) (hi8 c) = c := by
  rw [Int32.lt_iff_toInt_lt] at h0 h1
  have e0 : (0 : Int32).toInt = 0 := rfl
  have e1 : (65535 : Int32).toInt = 65535 := rfl
  have hc : c.toInt = c.toBitVec.toNat := by
    have := c.toBitVec.isLt
    have e : c.toInt = c.toBitVec.toInt := rfl
    rw [e] at h0 h1
    rw [e]
    rw [BitVec.toInt_eq_toNat_cond] at h0 h1 ⊢
    split at h0 <;> split <;> omega
  have hn : c.toBitVec.toNat < 65536 := by omega
  have a1 := lo8_and c
  have a2 : (hi8 c &&& 255).toBitVec.toNat = c.toBitVec.toNat / 256 := by
    rw [hi8, lo8_and]
    have e : ((8 : Int32) &&& 31) = 8 := by decide
    rw [e, Int32.toBitVec_shiftRight]
    have e2 : ((8 : Int32).toBitVec.smod 32) = 8#32 := by decide
    rw [e2, BitVec.sshiftRight_eq', BitVec.toNat_sshiftRight_of_msb_false (by rw [BitVec.msb_eq_false_iff_two_mul_lt]; omega)]
    show c.toBitVec.toNat >>> 8 % 256 = _
    rw [Nat.shiftRight_eq_div_pow]
    omega
  unfold pairCh
  apply Int32.toBitVec_inj.mp
  apply BitVec.eq_of_toNat_eq
  have f0 : ((0 : Int32) &&& 31) = 0 := by decide
  have f8 : ((8 : Int32) &&& 31) = 8 := by decide
  rw [f0, f8]
  have g : (((lo8 c &&& 255) <<< (0 : Int32)) ||| ((hi8 c &&& 255) <<< (8 : Int32))).toBitVec.toNat = c.toBitVec.toNat := by
    rw [Int32.toBitVec_or, Int32.toBitVec_shiftLeft, Int32.toBitVec_shiftLeft]
    have s0 : ((0 : Int32).toBitVec.smod 32) = 0#32 := by decide
    have s8 : ((8 : Int32).toBitVec.smod 32) = 8#32 := by decide
    rw [s0, s8, BitVec.toNat_or]
    simp only [BitVec.shiftLeft_eq', BitVec.toNat_shiftLeft, a1, a2]
    show (c.toBitVec.toNat % 256) <<< 0 % 2 ^ 32 ||| (c.toBitVec.toNat / 256) <<< 8 % 2 ^ 32 = _
    rw [Nat.shiftLeft_zero, Nat.mod_eq_of_lt (show c.toBitVec.toNat % 256 < 2 ^ 32 by omega), Nat.mod_eq_of_lt (show (c.toBitVec.toNat / 256) <<< 8 < 2 ^ 32 by rw [Nat.shiftLeft_eq]; omega), Nat.or_comm, ← Nat.shiftLeft_add_eq_or_of_lt (by omega), Nat.shiftLeft_eq]
    omega
  show BitVec.toNat (((((lo8 c &&& 255) <<< (0 : Int32)) ||| ((hi8 c &&& 255) <<< (8 : Int32))).toBitVec.setWidth 16).setWidth 32) = _
  rw [BitVec.toNat_setWidth, BitVec.toNat_setWidth, g]
  omega
end StrChars
namespace StrChars
open Jvm Sem ClassFile Op Lib Jvm.Stand Jvm.Free.XT Jvm.Free.ALB Jvm.Free.JM Jvm.Free
open Jvm.Lib.Cold (StaticIs)
/-- the array's cell V codes the n chars f 0 .. f (n - 1) by the coder cd, as the JDK does: coder 1 just where some char is above 255 -/
def Cod (cd : Int32) (n : Nat) (f : Nat → Int32) (V : Cell) : Prop := (cd = 0 ∧ V.slots.size = n ∧ ∀ j, j < n → V.slots[j]? = some (.int (lo8 (f j))) ∧ ¬ 255 < f j) ∨ (cd = 1 ∧ V.slots.size = 2 * n ∧ (∀ j, j < n → V.slots[2 * j]? = some (.int (lo8 (f j))) ∧ V.slots[2 * j + 1]? = some (.int (hi8 (f j)))) ∧ ∃ j, j < n ∧ 255 < f j)
/-- **x is a String of the n chars f 0 .. f (n - 1)**, Latin-1 or UTF-16; its array at t has the cell V -/
def Txt (x t : Addr) (V : Cell) (cd : Int32) (n : Nat) (f : Nat → Int32) (U : State) : Prop := Exact "java/lang/String" x U ∧ Has x "java/lang/String" "value" "[B" (.ref t) U ∧ Has x "java/lang/String" "coder" "B" (.int cd) U ∧ XT.Arr .byte t V U ∧ Cod cd n f V ∧ ∀ j, j < n → ¬ f j < 0 ∧ ¬ 65535 < f j
theorem Txt.mv {x t : Addr} {V : Cell} {cd : Int32} {n : Nat} {f : Nat → Int32} {U U' : State} (h : Txt x t V cd n f U) (hal : U.vm.Alike U'.vm) (hh : U'.heap = U.heap) : Txt x t V cd n f U' := ⟨h.1.mv hal hh, h.2.1.mv hal hh, h.2.2.1.mv hal hh, h.2.2.2.1.mv hal hh, h.2.2.2.2⟩
end StrChars
namespace StrChars.Road
open Jvm Sem ClassFile Op Lib Jvm.Stand Jvm.Free Jvm.Free.XT
open Jvm.Lib.Cold (StaticIs)
theorem consq {a : Array Value} {s : State} {c : Jvm.Cond} {L : List Jvm.Cond} (h0 : c.before a s = true) (h : ∀ w ∈ L, w.before a s = true) : ∀ w ∈ c :: L, w.before a s = true := fun w hw => (List.mem_cons.mp hw).elim (fun e => e ▸ h0) (h w)
/-- the bytes of the chars cs, low before high -/
def wideBytes : List Int32 → List Value
  | [] => []
  | c :: cs => .int (lo8 c) :: .int (hi8 c) :: wideBytes cs
theorem wide_lo (d : Value) : ∀ (cs : List Int32) (j : Nat), j < cs.length → (wideBytes cs).getD (2 * j) d = .int (lo8 (cs.getD j 0))
  | [], j, h => absurd h (Nat.not_lt_zero j)
  | c :: cs, 0, _ => rfl
  | c :: cs, j + 1, h => by
    have q := wide_lo d cs j (by simpa using h)
    rw [show 2 * (j + 1) = 2 * j + 1 + 1 from by omega]
    simpa [wideBytes] using q
theorem wide_hi (d : Value) : ∀ (cs : List Int32) (j : Nat), j < cs.length → (wideBytes cs).getD (2 * j + 1) d = .int (hi8 (cs.getD j 0))
  | [], j, h => absurd h (Nat.not_lt_zero j)
  | c :: cs, 0, _ => rfl
  | c :: cs, j + 1, h => by
    have q := wide_hi d cs j (by simpa using h)
    rw [show 2 * (j + 1) + 1 = 2 * j + 1 + 1 + 1 from by omega]
    simpa [wideBytes] using q
theorem low_at (d : Value) (cs : List Int32) (j : Nat) (h : j < cs.length) : (cs.map fun c => Value.int (lo8 c)).getD j d = .int (lo8 (cs.getD j 0)) := by
  simp [List.getD_eq_getElem?_getD, h]
/-- an array of N2 bytes vs codes the chars cs by the coder cd -/
def CodA (cs : List Int32) (cd N2 : Int32) (vs : List Value) : Prop := (cd = 0 ∧ N2 = Int32.ofNat cs.length ∧ vs = (cs.map fun c => Value.int (lo8 c)) ∧ ∀ c ∈ cs, ¬ 255 < c) ∨ (cd = 1 ∧ N2 = Int32.ofNat (2 * cs.length) ∧ vs = wideBytes cs ∧ ∃ c ∈ cs, 255 < c)
theorem CodA.cod {cs : List Int32} {cd N2 : Int32} {vs : List Value} {V : Cell} (h : CodA cs cd N2 vs) (hn : 2 * cs.length < 2 ^ 31) (hs : V.slots.size = N2.toNatClampNeg) (hv : RoadKit.Has V vs (.int 0)) : Cod cd cs.length (fun j => cs.getD j 0) V := by
  rcases h with ⟨rfl, rfl, rfl, h⟩ | ⟨rfl, rfl, rfl, c, hc, hw⟩
  · rw [n32 (by omega)] at hs
    exact Or.inl ⟨rfl, hs, fun j hj => ⟨by rw [hv j (by omega), low_at _ _ _ hj], by
      have e : cs.getD j 0 = cs[j] := by simp [List.getD_eq_getElem?_getD, hj]
      show ¬ 255 < cs.getD j 0
      rw [e]; exact h _ (List.getElem_mem _)⟩⟩
  · rw [n32 (by omega)] at hs
    obtain ⟨j, hj, rfl⟩ := List.getElem_of_mem hc
    exact Or.inr ⟨rfl, hs, fun j hj => ⟨by rw [hv _ (by omega), wide_lo _ _ _ hj], by rw [hv _ (by omega), wide_hi _ _ _ hj]⟩, j, hj, by
      have e : cs.getD j 0 = cs[j] := by simp [List.getD_eq_getElem?_getD, hj]
      show 255 < cs.getD j 0
      rw [e]; exact hw⟩
/-- an object of exactly java/lang/String, its two fields found: as the laws ask it -/
theorem strObj {Z U : State} {a0 : Array Value} {kI : Nat} (wi : (Jvm.Cond.instantiable ST kI).before a0 Z = true) (al : Z.vm.Alike U.vm) {x : Addr} {v0 c0 : Value} (E : RoadKit.Exa Z U.heap x ST) (V : RoadKit.Fld Z U.heap x ST "value" "[B" v0) (C : RoadKit.Fld Z U.heap x ST "coder" "B" c0) :
    ∃ (D : Cell) (fV fC : Field), Blank ST x D U ∧ Found ST "value" "[B" fV U ∧ Found ST "coder" "B" fC U ∧ D.slots[fV.slot]? = some v0 ∧ D.slots[fC.slot]? = some c0 ∧ RoadKit.slotOf Z ST "value" "[B" = fV.slot ∧ RoadKit.slotOf Z ST "coder" "B" = fC.slot := by
  obtain ⟨D, cfV, kV, iV, fV, hD, gV, stV, knV, obV, asV, slV⟩ := V
  obtain ⟨D', cfC, kC, iC, fC, hD', gC, stC, -, -, asC, slC⟩ := C
  cases hD.symm.trans hD'
  obtain ⟨D2, kD, e1, e2, e3, e4, e5⟩ := E
  cases hD.symm.trans e1
  obtain ⟨c2, k2, i1, i2, i3, -⟩ := Cond.instantiable_spec wi
  cases e2.symm.trans i1
  cases e3.symm.trans i2
  obtain ⟨kU, u1, u2⟩ := al.2.2 _ _ e3
  exact ⟨D, fV, fC, ⟨hD, ⟨knV, fun q hq => by rw [hq] at obV; cases obV⟩, by rw [al.findClass]; exact e2, kU, u1, by rw [u2]; exact i3, by rw [u2]; exact e5 i3⟩, ⟨SBG.found_only al ⟨cfV, kV, iV, gV⟩, stV⟩, ⟨SBG.found_only al ⟨cfC, kC, iC, gC⟩, stC⟩, slV, slC, by simp [RoadKit.slotOf, gV], by simp [RoadKit.slotOf, gC]⟩
theorem sta_is {Z U : State} (al : Z.vm.Alike U.vm) {C n d : String} {v : Value} (S : RoadKit.Sta Z U.heap C n d v) : StaticIs U C n d v := by
  obtain ⟨cfS, iS, kS, fS, st, cS, t1, t2, t3, t4, t5, t6, t7⟩ := S
  exact StaticIs.there (s := { Z with heap := U.heap }) ⟨cfS, iS, kS, fS, st, cS, t1, t2, t3, t4, t5, (fun q => by rw [q] at t6; cases t6), t7⟩ al rfl
end StrChars.Road
namespace StrChars
open Jvm Sem ClassFile Op Lib Jvm.Stand Jvm.Free.XT Jvm.Free.ALB Jvm.Free.JM Jvm.Free
open Jvm.Lib.Cold (StaticIs)
/-- what place i of a byte[]'s cell holds -/
def yv (A : Cell) (i : Nat) : Int32 := match A.slots[i]? with | some (.int x) => x | _ => 0
theorem yv_get {a : Addr} {A : Cell} {U : State} (h : XT.Arr .byte a A U) (ht : Typed .byte A) {i : Nat} (hi : i < A.slots.size) : A.slots[i]? = some (.int (yv A i)) := by
  have e := Array.getElem?_eq_getElem hi
  have f := ht i _ e
  unfold yv; rw [e]
  generalize A.slots[i] = v at f
  cases v <;> simp [fits] at f ⊢
/-- the two arrays are equal, place for place -/
def EqC (A B : Cell) : Prop := A.slots.size = B.slots.size ∧ ∀ i, i < A.slots.size → yv A i = yv B i
/-- a boolean that says whether p -/
def Says01 (q : Prop) (r : Option Value) (s u : State) : Prop := ∃ v : Int32, r = some (.int v) ∧ u.heap = s.heap ∧ ((v = 1 ∧ q) ∨ (v = 0 ∧ ¬ q))
theorem Says01.mv {q : Prop} : ∀ r (U U' V V' : State), U'.heap = U.heap → V.vm.Alike V'.vm → V'.heap = V.heap → Says01 q r U V → Says01 q r U' V' :=
  fun r U U' V V' h1 _ h2 ⟨v, a, b, c⟩ => ⟨v, a, by rw [h1, h2]; exact b, c⟩
namespace LEq
def yN : MethodName := ⟨"java/lang/StringLatin1", "equals", "([B[B)Z"⟩
abbrev yB : ByteArray := jdk_43_method_13_code
theorem d0 : decode yB 0 = .ok (.aload_n 0, 1) := by decide +kernel
theorem d1 : decode yB 1 = .ok (.arraylength, 1) := by decide +kernel
theorem d2 : decode yB 2 = .ok (.aload_n 1, 1) := by decide +kernel
theorem d3 : decode yB 3 = .ok (.arraylength, 1) := by decide +kernel
theorem d4 : decode yB 4 = .ok (.if_icmp (.ne) 30, 3) := by decide +kernel
theorem d7 : decode yB 7 = .ok (.iconst 0, 1) := by decide +kernel
theorem d8 : decode yB 8 = .ok (.istore_n 2, 1) := by decide +kernel
theorem d9 : decode yB 9 = .ok (.iload_n 2, 1) := by decide +kernel
theorem d10 : decode yB 10 = .ok (.aload_n 0, 1) := by decide +kernel
theorem d11 : decode yB 11 = .ok (.arraylength, 1) := by decide +kernel
theorem d12 : decode yB 12 = .ok (.if_icmp (.ge) 20, 3) := by decide +kernel
theorem d15 : decode yB 15 = .ok (.aload_n 0, 1) := by decide +kernel
theorem d16 : decode yB 16 = .ok (.iload_n 2, 1) := by decide +kernel
theorem d17 : decode yB 17 = .ok (.baload, 1) := by decide +kernel
theorem d18 : decode yB 18 = .ok (.aload_n 1, 1) := by decide +kernel
theorem d19 : decode yB 19 = .ok (.iload_n 2, 1) := by decide +kernel
theorem d20 : decode yB 20 = .ok (.baload, 1) := by decide +kernel
theorem d21 : decode yB 21 = .ok (.if_icmp (.eq) 5, 3) := by decide +kernel
theorem d24 : decode yB 24 = .ok (.iconst 0, 1) := by decide +kernel
theorem d25 : decode yB 25 = .ok (.ireturn, 1) := by decide +kernel
theorem d26 : decode yB 26 = .ok (.iinc 2 1, 3) := by decide +kernel
theorem d29 : decode yB 29 = .ok (.goto (-20), 3) := by decide +kernel
theorem d32 : decode yB 32 = .ok (.iconst 1, 1) := by decide +kernel
theorem d33 : decode yB 33 = .ok (.ireturn, 1) := by decide +kernel
theorem d34 : decode yB 34 = .ok (.iconst 0, 1) := by decide +kernel
theorem d35 : decode yB 35 = .ok (.ireturn, 1) := by decide +kernel
def site : List Cond := []
def tab : Cond := tabOf yN yB 3 (some .boolean) site
def P (a : Addr) (A : Cell) (b : Addr) (B : Cell) (args : Array Value) (s : State) : Prop := args = #[.ref a, .ref b] ∧ XT.Arr .byte a A s ∧ Typed .byte A ∧ XT.Arr .byte b B s ∧ Typed .byte B
/-- whether two byte[] are equal, place for place -/
theorem law (l : Launch) (a : Addr) (A : Cell) (b : Addr) (B : Cell) : Law l yN 2 2 0 0 yB 3 (some .boolean) site (P a A b B) (Says01 (EqC A B)) [] 0 0 := by
  refine Law.of_walk (plainFor_of_name (by decide +kernel)) (by decide +kernel) (by decide +kernel) (by decide) (fun _ _ h => by rw [h.1]; rfl) (fun _ U U' hal hh h => ⟨h.1, h.2.1.mv hal hh, h.2.2.1, h.2.2.2.1.mv hal hh, h.2.2.2.2⟩) (fun r U U' V V' h1 hal h2 h => Says01.mv r U U' V V' h1 hal h2 h) ?_
  intro p e s m args below meth c s₁ X0 hexec hbytes hml hret hlk hnm hown hh0 W hP
  obtain ⟨rfl, hA, tA, hB, tB⟩ := hP
  have a31 := hA.2.2.2
  have b31 := hB.2.2.2
  have hA0 := hA.mv X0.warmed.alike hh0
  have hB0 := hB.mv X0.warmed.alike hh0
  have c1 : Steps p.tables e below (s₁.setTop (entryFrame m #[.ref a, .ref b] 3)) (s₁.setTop (mkF m 0 #[.val (.ref a), .val (.ref b), .unset] [])) := entry rfl
  have c2 : Steps p.tables e below (s₁.setTop (entryFrame m #[.ref a, .ref b] 3)) (s₁.setTop (mkF m 4 #[.val (.ref a), .val (.ref b), .unset] [.int (Int32.ofNat B.slots.size), .int (Int32.ofNat A.slots.size)])) := c1.trans (by
    refine XS.aloadN X0.here hexec rfl (hb hbytes d0) rfl rfl ?_
    refine X0.alen hexec hA0 rfl rfl (hb hbytes d1) ?_
    refine XS.aloadN X0.here hexec rfl (hb hbytes d2) rfl rfl ?_
    refine X0.alen hexec hB0 rfl rfl (hb hbytes d3) ?_
    exact Steps.refl _)
  by_cases hs : A.slots.size = B.slots.size
  · have c3 : Steps p.tables e below (s₁.setTop (entryFrame m #[.ref a, .ref b] 3)) (s₁.setTop (mkF m 9 #[.val (.ref a), .val (.ref b), .val (.int 0)] [])) := c2.trans (by
      refine XS.icmpNo X0.here hexec rfl (hb hbytes d4) rfl (ii_ne_f (by rw [hs])) ?_
      refine iconstV X0.here hexec rfl 0 (hb hbytes d7) (by decide) ?_
      refine XS.istoreN X0.here hexec rfl (hb hbytes d8) rfl rfl ?_
      exact Steps.refl _)
    have loop : ∀ (r i : Nat), i + r = A.slots.size → (∀ j, j < i → yv A j = yv B j) → Steps p.tables e below (s₁.setTop (entryFrame m #[.ref a, .ref b] 3)) (s₁.setTop (mkF m 9 #[.val (.ref a), .val (.ref b), .val (.int (Int32.ofNat i))] [])) → ∃ (pc : Nat) (Ls : Array Slot) (v : Int32), (pc = 25 ∨ pc = 33) ∧ ((v = 1 ∧ EqC A B) ∨ (v = 0 ∧ ¬ EqC A B)) ∧ Steps p.tables e below (s₁.setTop (entryFrame m #[.ref a, .ref b] 3)) (s₁.setTop (mkF m pc Ls [.int v])) := by
      intro r
      induction r with
      | zero =>
        intro i hi he cl
        exact ⟨33, _, 1, Or.inr rfl, Or.inl ⟨rfl, hs, fun j hj => he j (by omega)⟩, cl.trans (by
          refine XS.iloadN X0.here hexec rfl (hb hbytes d9) rfl ?_
          refine XS.aloadN X0.here hexec rfl (hb hbytes d10) rfl rfl ?_
          refine X0.alen hexec hA0 rfl rfl (hb hbytes d11) ?_
          refine XS.icmpYes X0.here hexec rfl (pc0 := 12) rfl (hb hbytes d12) rfl (ii_ge_t (nlt32 (by omega) (by omega))) (by decide) rfl ?_
          refine iconstV X0.here hexec rfl 1 (hb hbytes d32) (by decide) ?_
          exact Steps.refl _)⟩
      | succ r ih =>
        intro i hi he cl
        have c4 : Steps p.tables e below (s₁.setTop (entryFrame m #[.ref a, .ref b] 3)) (s₁.setTop (mkF m 21 #[.val (.ref a), .val (.ref b), .val (.int (Int32.ofNat i))] [.int (yv B i), .int (yv A i)])) := cl.trans (by
          refine XS.iloadN X0.here hexec rfl (hb hbytes d9) rfl ?_
          refine XS.aloadN X0.here hexec rfl (hb hbytes d10) rfl rfl ?_
          refine X0.alen hexec hA0 rfl rfl (hb hbytes d11) ?_
          refine XS.icmpNo X0.here hexec rfl (hb hbytes d12) rfl (ii_ge_f (lt32 (by omega) (by omega))) ?_
          refine XS.aloadN X0.here hexec rfl (hb hbytes d15) rfl rfl ?_
          refine XS.iloadN X0.here hexec rfl (hb hbytes d16) rfl ?_
          refine X0.aget hexec hA0 rfl (yv_get hA tA (i := i) (by omega)) rfl rfl (hb hbytes d17) ?_
          refine XS.aloadN X0.here hexec rfl (hb hbytes d18) rfl rfl ?_
          refine XS.iloadN X0.here hexec rfl (hb hbytes d19) rfl ?_
          refine X0.aget hexec hB0 rfl (yv_get hB tB (i := i) (by omega)) rfl rfl (hb hbytes d20) ?_
          exact Steps.refl _)
        by_cases hv : yv A i = yv B i
        · have c5 : Steps p.tables e below (s₁.setTop (entryFrame m #[.ref a, .ref b] 3)) (s₁.setTop (mkF m 9 #[.val (.ref a), .val (.ref b), .val (.int (Int32.ofNat i + 1))] [])) := c4.trans (by
            refine XS.icmpYes X0.here hexec rfl (pc0 := 21) rfl (hb hbytes d21) rfl (ii_eq_t hv) (by decide) rfl ?_
            refine iincV X0.here hexec rfl 1 (hb hbytes d26) (by decide) rfl rfl ?_
            refine XS.goto X0.here hexec rfl (pc0 := 29) rfl (hb hbytes d29) (by decide) rfl ?_
            exact Steps.refl _)
          rw [succ32] at c5
          exact ih (i + 1) (by omega) (fun j hj => by
            by_cases e : j = i
            · rw [e]; exact hv
            · exact he j (by omega)) c5
        · exact ⟨25, _, 0, Or.inl rfl, Or.inr ⟨rfl, fun q => hv (q.2 i (by omega))⟩, c4.trans (by
            refine XS.icmpNo X0.here hexec rfl (hb hbytes d21) rfl (ii_eq_f hv) ?_
            refine iconstV X0.here hexec rfl 0 (hb hbytes d24) (by decide) ?_
            exact Steps.refl _)⟩
    obtain ⟨pc, Ls, v, hpc, hv, cz⟩ := loop A.slots.size 0 (by omega) (fun j hj => absurd hj (Nat.not_lt_zero j)) c3
    have nv : narrow .boolean (.int v) = .int v := by rcases hv with ⟨rfl, -⟩ | ⟨rfl, -⟩ <;> rfl
    rcases hpc with rfl | rfl
    · exact ⟨s₁, some (.int v), _, _, _, X0, rfl, rfl, rfl, (fun h => by cases h), ⟨v, rfl, hh0, hv⟩, fun fs hl => cz.trans (X0.ireturnOut hexec hret nv (Or.inr (Or.inl rfl)) (hb hbytes d25) hl)⟩
    · exact ⟨s₁, some (.int v), _, _, _, X0, rfl, rfl, rfl, (fun h => by cases h), ⟨v, rfl, hh0, hv⟩, fun fs hl => cz.trans (X0.ireturnOut hexec hret nv (Or.inr (Or.inl rfl)) (hb hbytes d33) hl)⟩
  · have c3 : Steps p.tables e below (s₁.setTop (entryFrame m #[.ref a, .ref b] 3)) (s₁.setTop (mkF m 35 #[.val (.ref a), .val (.ref b), .unset] [.int 0])) := c2.trans (by
      refine XS.icmpYes X0.here hexec rfl (pc0 := 4) rfl (hb hbytes d4) rfl (ii_ne_t (ne32 a31 b31 hs)) (by decide) rfl ?_
      refine iconstV X0.here hexec rfl 0 (hb hbytes d34) (by decide) ?_
      exact Steps.refl _)
    exact ⟨s₁, some (.int 0), _, _, _, X0, rfl, rfl, rfl, (fun h => by cases h), ⟨0, rfl, hh0, Or.inr ⟨rfl, fun q => hs q.1⟩⟩, fun fs hl => c3.trans (X0.ireturnOut hexec hret rfl (Or.inr (Or.inl rfl)) (hb hbytes d35) hl)⟩
end LEq
theorem Cod.ty {cd : Int32} {n : Nat} {f : Nat → Int32} {V : Cell} (h : Cod cd n f V) : Typed .byte V := fun i v hv => by
  have hi : i < V.slots.size := (Array.getElem?_eq_some_iff.mp hv).1
  rcases h with ⟨-, k1, k2⟩ | ⟨-, k1, k2, -⟩
  · rw [(k2 i (by omega)).1] at hv; cases hv; exact fits_lo8 _
  · rcases Nat.mod_two_eq_zero_or_one i with e | e
    · obtain ⟨j, rfl⟩ : ∃ j, i = 2 * j := ⟨i / 2, by omega⟩
      rw [(k2 j (by omega)).1] at hv; cases hv; exact fits_lo8 _
    · obtain ⟨j, rfl⟩ : ∃ j, i = 2 * j + 1 := ⟨i / 2, by omega⟩
      rw [(k2 j (by omega)).2] at hv; cases hv; exact fits_lo8 _
/-- the same text -/
def SameT (n : Nat) (f : Nat → Int32) (k : Nat) (g : Nat → Int32) : Prop := n = k ∧ ∀ j, j < n → f j = g j
theorem lo8_inj {x y : Int32} (h0 : ¬ x < 0) (h1 : ¬ 255 < x) (k0 : ¬ y < 0) (k1 : ¬ 255 < y) (h : lo8 x = lo8 y) : x = y := by
  rw [← lo8_mask h0 h1, ← lo8_mask k0 k1, h]
/-- arrays coded by one coder are equal just where the texts are -/
theorem Cod.eqv {cd : Int32} {n k : Nat} {f g : Nat → Int32} {V V' : Cell} (h : Cod cd n f V) (h' : Cod cd k g V') (hf : ∀ j, j < n → ¬ f j < 0 ∧ ¬ 65535 < f j) (hg : ∀ j, j < k → ¬ g j < 0 ∧ ¬ 65535 < g j) : EqC V V' ↔ SameT n f k g := by
  have yvv : ∀ {W : Cell} {i : Nat} {x : Int32}, W.slots[i]? = some (.int x) → yv W i = x := fun q => by unfold yv; rw [q]
  rcases h with ⟨rfl, k1, k2⟩ | ⟨rfl, k1, k2, -⟩
  · rcases h' with ⟨-, m1, m2⟩ | ⟨e, -⟩
    · constructor
      · rintro ⟨e1, e2⟩
        refine ⟨by omega, fun j hj => ?_⟩
        have q := e2 j (by omega)
        rw [yvv (k2 j hj).1, yvv (m2 j (by omega)).1] at q
        exact lo8_inj (hf j hj).1 (k2 j hj).2 (hg j (by omega)).1 (m2 j (by omega)).2 q
      · rintro ⟨rfl, e2⟩
        refine ⟨by omega, fun j hj => ?_⟩
        rw [yvv (k2 j (by omega)).1, yvv (m2 j (by omega)).1, e2 j (by omega)]
    · exact absurd e (by decide)
  · rcases h' with ⟨e, -⟩ | ⟨-, m1, m2, -⟩
    · exact absurd e (by decide)
    · constructor
      · rintro ⟨e1, e2⟩
        refine ⟨by omega, fun j hj => ?_⟩
        have q1 := e2 (2 * j) (by omega)
        have q2 := e2 (2 * j + 1) (by omega)
        rw [yvv (k2 j hj).1, yvv (m2 j (by omega)).1] at q1
        rw [yvv (k2 j hj).2, yvv (m2 j (by omega)).2] at q2
        rw [← pair_says (hf j hj).1 (hf j hj).2, ← pair_says (hg j (by omega)).1 (hg j (by omega)).2, q1, q2]
      · rintro ⟨rfl, e2⟩
        refine ⟨by omega, fun i hi => ?_⟩
        rcases Nat.mod_two_eq_zero_or_one i with e | e
        · obtain ⟨j, rfl⟩ : ∃ j, i = 2 * j := ⟨i / 2, by omega⟩
          rw [yvv (k2 j (by omega)).1, yvv (m2 j (by omega)).1, e2 j (by omega)]
        · obtain ⟨j, rfl⟩ : ∃ j, i = 2 * j + 1 := ⟨i / 2, by omega⟩
          rw [yvv (k2 j (by omega)).2, yvv (m2 j (by omega)).2, e2 j (by omega)]
/-- two codings differ: so do the texts -/
theorem Cod.dif {cd cd' : Int32} {n k : Nat} {f g : Nat → Int32} {V V' : Cell} (h : Cod cd n f V) (h' : Cod cd' k g V') (hne : ¬ cd = cd') : ¬ SameT n f k g := by
  rintro ⟨rfl, e⟩
  rcases h with ⟨rfl, -, k2⟩ | ⟨rfl, -, -, j, hj, hw⟩
  · rcases h' with ⟨rfl, -⟩ | ⟨-, -, -, j, hj, hw⟩
    · exact hne rfl
    · exact (k2 j hj).2 (by rw [e j hj]; exact hw)
  · rcases h' with ⟨-, -, m2⟩ | ⟨rfl, -⟩
    · exact (m2 j hj).2 (by rw [← e j hj]; exact hw)
    · exact hne rfl
/-- an object of exactly C is an instance of C -/
theorem cinst {p : Program} {l : Launch} {e : Env} {R : Room} {s : State} {m : MethodId} {args : Array Value} {below : List Frame} {meth : Method} {c : Code} {T : State} {locs : List Loc} {cells slots : Nat} (X : Stand p l e R s m args below meth c T locs cells slots) (hexec : p.tables.exec = Jvm.exec) {own C : String} {index : Nat} (hown : s.vm.findClass own = some m.cls) (hlink : (Cond.classLink own index C).before args s = true) {a : Addr} (hE : Exact C a T)
    {g : JFrame} (hg : g.method = m) {rest : List Value} (hstack : g.stack = .ref a :: rest) (hdg : decode c.code g.pc = .ok (.instanceof index, 3)) :
    ∃ T', Stand p l e R s m args below meth c T' locs cells slots ∧ T'.heap = T.heap ∧ ∀ target, Steps p.tables e below (T'.setTop { g with pc := g.pc + 3, stack := .int 1 :: rest }) target → Steps p.tables e below (T.setTop g) target := by
  obtain ⟨cB, h1, D, h2, h3, h4⟩ := hE
  have h1' : s.vm.findClass C = some cB := by rw [← X.warmed.alike.findClass]; exact h1
  obtain ⟨vm', X', st⟩ := X.instanceofYes hexec hown hlink h2 h4 h1' (by rw [h3]; exact Jvm.Free.SB.assignable_self _ _) hg hstack hdg
  exact ⟨_, X', rfl, st⟩
theorem cself {p : Program} {l : Launch} {e : Env} {R : Room} {s : State} {m : MethodId} {args : Array Value} {below : List Frame} {meth : Method} {c : Code} {T : State} {locs : List Loc} {cells slots : Nat} (X : Stand p l e R s m args below meth c T locs cells slots) (hexec : p.tables.exec = Jvm.exec) {own C : String} {index : Nat} (hown : s.vm.findClass own = some m.cls) (hlink : (Cond.classLink own index C).before args s = true) {a : Addr} (hE : Exact C a T)
    {g : JFrame} (hg : g.method = m) {rest : List Value} (hstack : g.stack = .ref a :: rest) (hdg : decode c.code g.pc = .ok (.checkcast index, 3)) :
    ∃ T', Stand p l e R s m args below meth c T' locs cells slots ∧ T'.heap = T.heap ∧ ∀ target, Steps p.tables e below (T'.setTop { g with pc := g.pc + 3, stack := .ref a :: rest }) target → Steps p.tables e below (T.setTop g) target := by
  obtain ⟨cB, h1, D, h2, h3, h4⟩ := hE
  have h1' : s.vm.findClass C = some cB := by rw [← X.warmed.alike.findClass]; exact h1
  obtain ⟨vm', X', st⟩ := X.checkcastYes hexec hown hlink h2 h4 h1' (by rw [h3]; exact Jvm.Free.SB.assignable_self _ _) hg hstack hdg
  exact ⟨_, X', rfl, fun t h => st t (by rw [← hstack] at h; exact h)⟩
namespace SEq
def yN : MethodName := ⟨"java/lang/String", "equals", "(Ljava/lang/Object;)Z"⟩
abbrev yB : ByteArray := jdk_42_method_66_code
theorem d0 : decode yB 0 = .ok (.aload_n 0, 1) := by decide +kernel
theorem d1 : decode yB 1 = .ok (.aload_n 1, 1) := by decide +kernel
theorem d2 : decode yB 2 = .ok (.if_acmp (.ne) 5, 3) := by decide +kernel
theorem d5 : decode yB 5 = .ok (.iconst 1, 1) := by decide +kernel
theorem d6 : decode yB 6 = .ok (.ireturn, 1) := by decide +kernel
theorem d7 : decode yB 7 = .ok (.aload_n 1, 1) := by decide +kernel
theorem d8 : decode yB 8 = .ok (.instanceof 10, 3) := by decide +kernel
theorem d11 : decode yB 11 = .ok (.ifCond (.eq) 43, 3) := by decide +kernel
theorem d14 : decode yB 14 = .ok (.aload_n 1, 1) := by decide +kernel
theorem d15 : decode yB 15 = .ok (.checkcast 10, 3) := by decide +kernel
theorem d18 : decode yB 18 = .ok (.astore_n 2, 1) := by decide +kernel
theorem d19 : decode yB 19 = .ok (.getstatic 38, 3) := by decide +kernel
theorem d22 : decode yB 22 = .ok (.ifCond (.eq) 14, 3) := by decide +kernel
theorem d25 : decode yB 25 = .ok (.aload_n 0, 1) := by decide +kernel
theorem d26 : decode yB 26 = .ok (.getfield 15, 3) := by decide +kernel
theorem d29 : decode yB 29 = .ok (.aload_n 2, 1) := by decide +kernel
theorem d30 : decode yB 30 = .ok (.getfield 15, 3) := by decide +kernel
theorem d33 : decode yB 33 = .ok (.if_icmp (.ne) 21, 3) := by decide +kernel
theorem d36 : decode yB 36 = .ok (.aload_n 0, 1) := by decide +kernel
theorem d37 : decode yB 37 = .ok (.getfield 9, 3) := by decide +kernel
theorem d40 : decode yB 40 = .ok (.aload_n 2, 1) := by decide +kernel
theorem d41 : decode yB 41 = .ok (.getfield 9, 3) := by decide +kernel
theorem d44 : decode yB 44 = .ok (.invokestatic 541, 3) := by decide +kernel
theorem d47 : decode yB 47 = .ok (.ifCond (.eq) 7, 3) := by decide +kernel
theorem d50 : decode yB 50 = .ok (.iconst 1, 1) := by decide +kernel
theorem d51 : decode yB 51 = .ok (.goto 4, 3) := by decide +kernel
theorem d54 : decode yB 54 = .ok (.iconst 0, 1) := by decide +kernel
theorem d55 : decode yB 55 = .ok (.ireturn, 1) := by decide +kernel
def site : List Cond := [.classLink "java/lang/String" 10 "java/lang/String", .fieldLink "java/lang/String" 38 "java/lang/String" "COMPACT_STRINGS" "Z", .fieldLink "java/lang/String" 15 "java/lang/String" "coder" "B", .fieldLink "java/lang/String" 9 "java/lang/String" "value" "[B", LEq.tab] ++ staticW "java/lang/String" 541 LEq.yN
def tab : Cond := tabOf yN yB 3 (some .boolean) site
def P (x t : Addr) (V : Cell) (cd : Int32) (n : Nat) (f : Nat → Int32) (y t' : Addr) (V' : Cell) (cd' : Int32) (k : Nat) (g : Nat → Int32) (z : Int32) (args : Array Value) (s : State) : Prop := args = #[.ref x, .ref y] ∧ Txt x t V cd n f s ∧ Txt y t' V' cd' k g s ∧ StaticIs s "java/lang/String" "COMPACT_STRINGS" "Z" (.int z) ∧ ¬ z = 0
/-- equals(Object) of two Strings: whether the texts are the same -/
theorem law (l : Launch) (x t : Addr) (V : Cell) (cd : Int32) (n : Nat) (f : Nat → Int32) (y t' : Addr) (V' : Cell) (cd' : Int32) (k : Nat) (g : Nat → Int32) (z : Int32) : Law l yN 2 1 1 14 yB 3 (some .boolean) site (P x t V cd n f y t' V' cd' k g z) (Says01 (SameT n f k g)) [] 0 0 := by
  refine Law.of_walk (plainFor_of_name (by decide +kernel)) (by decide +kernel) (by decide +kernel) (by decide) (fun _ _ h => by rw [h.1]; rfl) (fun _ U U' hal hh h => ⟨h.1, h.2.1.mv hal hh, h.2.2.1.mv hal hh, h.2.2.2.1.there hal hh, h.2.2.2.2⟩) (fun r U U' V V' h1 hal h2 h => Says01.mv r U U' V V' h1 hal h2 h) ?_
  intro p e s m args below meth c s₁ X0 hexec hbytes hml hret hlk hnm hown hh0 W hP
  obtain ⟨rfl, hx, hy, s1, hz⟩ := hP
  have c1 : Steps p.tables e below (s₁.setTop (entryFrame m #[.ref x, .ref y] 3)) (s₁.setTop (mkF m 2 #[.val (.ref x), .val (.ref y), .unset] [.ref y, .ref x])) := Steps.trans (entry rfl) (by
    show Steps p.tables e below (s₁.setTop (mkF m 0 #[.val (.ref x), .val (.ref y), .unset] [])) _
    refine XS.aloadN X0.here hexec rfl (hb hbytes d0) rfl rfl ?_
    refine XS.aloadN X0.here hexec rfl (hb hbytes d1) rfl rfl ?_
    exact Steps.refl _)
  by_cases hxy : x = y
  · have c2 : Steps p.tables e below (s₁.setTop (entryFrame m #[.ref x, .ref y] 3)) (s₁.setTop (mkF m 6 #[.val (.ref x), .val (.ref y), .unset] [.int 1])) := c1.trans (by
      refine acmpNo X0.here hexec rfl (hb hbytes d2) rfl rfl rfl (by simp [acmp, hxy]) ?_
      refine iconstV X0.here hexec rfl 1 (hb hbytes d5) (by decide) ?_
      exact Steps.refl _)
    subst hxy
    have ec : cd = cd' := by
      obtain ⟨D, fd, a1, a2, a3⟩ := hx.2.2.1
      obtain ⟨D', fd', b1, b2, b3⟩ := hy.2.2.1
      cases a1.symm.trans b1
      obtain ⟨q1, q2, q3, q4⟩ := a2.1
      obtain ⟨r1, r2, r3, r4⟩ := b2.1
      cases q4.symm.trans r4
      cases a3.symm.trans b3; rfl
    have et : t = t' := by
      obtain ⟨D, fd, a1, a2, a3⟩ := hx.2.1
      obtain ⟨D', fd', b1, b2, b3⟩ := hy.2.1
      cases a1.symm.trans b1
      obtain ⟨q1, q2, q3, q4⟩ := a2.1
      obtain ⟨r1, r2, r3, r4⟩ := b2.1
      cases q4.symm.trans r4
      cases a3.symm.trans b3; rfl
    subst ec et
    have ev : V = V' := by cases hx.2.2.2.1.1.symm.trans hy.2.2.2.1.1; rfl
    subst ev
    have hs : SameT n f k g := (Cod.eqv hx.2.2.2.2.1 hy.2.2.2.2.1 hx.2.2.2.2.2 hy.2.2.2.2.2).mp ⟨rfl, fun _ _ => rfl⟩
    exact ⟨s₁, some (.int 1), _, _, _, X0, rfl, rfl, rfl, (fun h => by cases h), ⟨1, rfl, hh0, Or.inl ⟨rfl, hs⟩⟩, fun fs hl => c2.trans (X0.ireturnOut hexec hret rfl (Or.inr (Or.inl rfl)) (hb hbytes d6) hl)⟩
  · have c2 : Steps p.tables e below (s₁.setTop (entryFrame m #[.ref x, .ref y] 3)) (s₁.setTop (mkF m 8 #[.val (.ref x), .val (.ref y), .unset] [.ref y])) := c1.trans (by
      refine acmpYes X0.here hexec rfl (pc0 := 2) rfl (hb hbytes d2) rfl rfl rfl (by simp [acmp, hxy]) (by decide) rfl ?_
      refine XS.aloadN X0.here hexec rfl (hb hbytes d7) rfl rfl ?_
      exact Steps.refl _)
    obtain ⟨T3, X3, q3, st3⟩ := cinst X0 hexec hown (wk W (.classLink "java/lang/String" 10 "java/lang/String")) (hy.mv X0.warmed.alike hh0).1 (g := (mkF m 8 #[.val (.ref x), .val (.ref y), .unset] [.ref y])) rfl (rest := []) rfl (hb hbytes d8)
    have hh3 := q3.trans hh0
    have c4 : Steps p.tables e below (s₁.setTop (entryFrame m #[.ref x, .ref y] 3)) (T3.setTop (mkF m 15 #[.val (.ref x), .val (.ref y), .unset] [.ref y])) := (c2.trans (st3 _ (Steps.refl _))).trans (by
      refine XS.ifNo X3.here hexec rfl (hb hbytes d11) rfl (i0_eq_f (by decide)) ?_
      refine XS.aloadN X3.here hexec rfl (hb hbytes d14) rfl rfl ?_
      exact Steps.refl _)
    obtain ⟨T5, X5, q5, st5⟩ := cself X3 hexec hown (wk W (.classLink "java/lang/String" 10 "java/lang/String")) (hy.mv X3.warmed.alike hh3).1 (g := (mkF m 15 #[.val (.ref x), .val (.ref y), .unset] [.ref y])) rfl (rest := []) rfl (hb hbytes d15)
    have hh5 := q5.trans hh3
    have c6 : Steps p.tables e below (s₁.setTop (entryFrame m #[.ref x, .ref y] 3)) (T5.setTop (mkF m 19 #[.val (.ref x), .val (.ref y), .val (.ref y)] [])) := (c4.trans (st5 _ (Steps.refl _))).trans (by
      refine XS.astoreN X5.here hexec rfl (hb hbytes d18) rfl rfl rfl ?_
      exact Steps.refl _)
    obtain ⟨T7, X7, q7, st7⟩ := X5.sget hexec hown (wk W (.fieldLink "java/lang/String" 38 "java/lang/String" "COMPACT_STRINGS" "Z")) s1 (fun _ _ h => by rw [hh5]; exact h) (g := (mkF m 19 #[.val (.ref x), .val (.ref y), .val (.ref y)] [])) rfl (hb hbytes d19)
    have hh7 := q7.trans hh5
    have c8 : Steps p.tables e below (s₁.setTop (entryFrame m #[.ref x, .ref y] 3)) (T7.setTop (mkF m 26 #[.val (.ref x), .val (.ref y), .val (.ref y)] [.ref x])) := (c6.trans (st7 _ (Steps.refl _))).trans (by
      refine XS.ifNo X7.here hexec rfl (hb hbytes d22) rfl (i0_eq_f hz) ?_
      refine XS.aloadN X7.here hexec rfl (hb hbytes d25) rfl rfl ?_
      exact Steps.refl _)
    obtain ⟨T9, X9, q9, st9⟩ := X7.hget hexec hown (wk W (.fieldLink "java/lang/String" 15 "java/lang/String" "coder" "B")) (hx.mv X7.warmed.alike hh7).2.2.1 (g := (mkF m 26 #[.val (.ref x), .val (.ref y), .val (.ref y)] [.ref x])) rfl (rest := []) rfl (hb hbytes d26)
    have hh9 := q9.trans hh7
    have c10 : Steps p.tables e below (s₁.setTop (entryFrame m #[.ref x, .ref y] 3)) (T9.setTop (mkF m 30 #[.val (.ref x), .val (.ref y), .val (.ref y)] [.ref y, .int cd])) := (c8.trans (st9 _ (Steps.refl _))).trans (by
      refine XS.aloadN X9.here hexec rfl (hb hbytes d29) rfl rfl ?_
      exact Steps.refl _)
    obtain ⟨T11, X11, q11, st11⟩ := X9.hget hexec hown (wk W (.fieldLink "java/lang/String" 15 "java/lang/String" "coder" "B")) (hy.mv X9.warmed.alike hh9).2.2.1 (g := (mkF m 30 #[.val (.ref x), .val (.ref y), .val (.ref y)] [.ref y, .int cd])) rfl (rest := [.int cd]) rfl (hb hbytes d30)
    have hh11 := q11.trans hh9
    have c12 : Steps p.tables e below (s₁.setTop (entryFrame m #[.ref x, .ref y] 3)) (T11.setTop (mkF m 33 #[.val (.ref x), .val (.ref y), .val (.ref y)] [.int cd', .int cd])) := c10.trans (st11 _ (Steps.refl _))
    by_cases hcd : cd = cd'
    · subst hcd
      have c13 : Steps p.tables e below (s₁.setTop (entryFrame m #[.ref x, .ref y] 3)) (T11.setTop (mkF m 37 #[.val (.ref x), .val (.ref y), .val (.ref y)] [.ref x])) := c12.trans (by
        refine XS.icmpNo X11.here hexec rfl (hb hbytes d33) rfl (ii_ne_f rfl) ?_
        refine XS.aloadN X11.here hexec rfl (hb hbytes d36) rfl rfl ?_
        exact Steps.refl _)
      obtain ⟨T14, X14, q14, st14⟩ := X11.hget hexec hown (wk W (.fieldLink "java/lang/String" 9 "java/lang/String" "value" "[B")) (hx.mv X11.warmed.alike hh11).2.1 (g := (mkF m 37 #[.val (.ref x), .val (.ref y), .val (.ref y)] [.ref x])) rfl (rest := []) rfl (hb hbytes d37)
      have hh14 := q14.trans hh11
      have c15 : Steps p.tables e below (s₁.setTop (entryFrame m #[.ref x, .ref y] 3)) (T14.setTop (mkF m 41 #[.val (.ref x), .val (.ref y), .val (.ref y)] [.ref y, .ref t])) := (c13.trans (st14 _ (Steps.refl _))).trans (by
        refine XS.aloadN X14.here hexec rfl (hb hbytes d40) rfl rfl ?_
        exact Steps.refl _)
      obtain ⟨T16, X16, q16, st16⟩ := X14.hget hexec hown (wk W (.fieldLink "java/lang/String" 9 "java/lang/String" "value" "[B")) (hy.mv X14.warmed.alike hh14).2.1 (g := (mkF m 41 #[.val (.ref x), .val (.ref y), .val (.ref y)] [.ref y, .ref t])) rfl (rest := [.ref t]) rfl (hb hbytes d41)
      have hh16 := q16.trans hh14
      have c17 : Steps p.tables e below (s₁.setTop (entryFrame m #[.ref x, .ref y] 3)) (T16.setTop (mkF m 44 #[.val (.ref x), .val (.ref y), .val (.ref y)] [.ref t', .ref t])) := c15.trans (st16 _ (Steps.refl _))
      obtain ⟨v18, T18, X18, E18, g18⟩ := X16.callS hexec (LEq.law l t V t' V') hown (wks W (staticW "java/lang/String" 541 LEq.yN)) (wk W LEq.tab) (W := 0) (Nat.le_of_ble_eq_true rfl) (Nat.le_of_ble_eq_true rfl) (Nat.le_refl _) (Nat.le_refl _) (g := (mkF m 44 #[.val (.ref x), .val (.ref y), .val (.ref y)] [.ref t', .ref t])) rfl (by rw [hml]; rfl) c17 (argsL := [.ref t, .ref t']) (rest := []) rfl rfl (by show 2 * 0 + 0 ≤ _; decide) (hb hbytes d44) (⟨rfl, hx.2.2.2.1.mv X16.warmed.alike hh16, hx.2.2.2.2.1.ty, hy.2.2.2.1.mv X16.warmed.alike hh16, hy.2.2.2.2.1.ty⟩)
      obtain ⟨v, rfl, q18, hv⟩ := E18
      have iff := Cod.eqv hx.2.2.2.2.1 hy.2.2.2.2.1 hx.2.2.2.2.2 hy.2.2.2.2.2
      rcases hv with ⟨rfl, he⟩ | ⟨rfl, he⟩
      · have c19 : Steps p.tables e below (s₁.setTop (entryFrame m #[.ref x, .ref y] 3)) (T18.setTop (mkF m 55 #[.val (.ref x), .val (.ref y), .val (.ref y)] [.int 1])) := Steps.trans g18 (by
          refine XS.ifNo X18.here hexec rfl (hb hbytes d47) rfl (i0_eq_f (by decide)) ?_
          refine iconstV X18.here hexec rfl 1 (hb hbytes d50) (by decide) ?_
          refine XS.goto X18.here hexec rfl (pc0 := 51) rfl (hb hbytes d51) (by decide) rfl ?_
          exact Steps.refl _)
        exact ⟨T18, some (.int 1), _, _, _, X18, rfl, rfl, rfl, (fun h => by cases h), ⟨1, rfl, q18.trans hh16, Or.inl ⟨rfl, iff.mp he⟩⟩, fun fs hl => c19.trans (X18.ireturnOut hexec hret rfl (Or.inr (Or.inl rfl)) (hb hbytes d55) hl)⟩
      · have c19 : Steps p.tables e below (s₁.setTop (entryFrame m #[.ref x, .ref y] 3)) (T18.setTop (mkF m 55 #[.val (.ref x), .val (.ref y), .val (.ref y)] [.int 0])) := Steps.trans g18 (by
          refine XS.ifYes X18.here hexec rfl (pc0 := 47) rfl (hb hbytes d47) rfl (i0_eq_t rfl) (by decide) rfl ?_
          refine iconstV X18.here hexec rfl 0 (hb hbytes d54) (by decide) ?_
          exact Steps.refl _)
        exact ⟨T18, some (.int 0), _, _, _, X18, rfl, rfl, rfl, (fun h => by cases h), ⟨0, rfl, q18.trans hh16, Or.inr ⟨rfl, fun q => he (iff.mpr q)⟩⟩, fun fs hl => c19.trans (X18.ireturnOut hexec hret rfl (Or.inr (Or.inl rfl)) (hb hbytes d55) hl)⟩
    · have c13 : Steps p.tables e below (s₁.setTop (entryFrame m #[.ref x, .ref y] 3)) (T11.setTop (mkF m 55 #[.val (.ref x), .val (.ref y), .val (.ref y)] [.int 0])) := c12.trans (by
        refine XS.icmpYes X11.here hexec rfl (pc0 := 33) rfl (hb hbytes d33) rfl (ii_ne_t hcd) (by decide) rfl ?_
        refine iconstV X11.here hexec rfl 0 (hb hbytes d54) (by decide) ?_
        exact Steps.refl _)
      exact ⟨T11, some (.int 0), _, _, _, X11, rfl, rfl, rfl, (fun h => by cases h), ⟨0, rfl, hh11, Or.inr ⟨rfl, Cod.dif hx.2.2.2.2.1 hy.2.2.2.2.1 hcd⟩⟩, fun fs hl => c13.trans (X11.ireturnOut hexec hret rfl (Or.inr (Or.inl rfl)) (hb hbytes d55) hl)⟩
theorem pays {l : Launch} {R : Room} {p : Program} {e : Env} {below : List Frame} {s : State} {sargs : Array Value} {len W : Nat} (x t : Addr) (V : Cell) (cd : Int32) (n : Nat) (f : Nat → Int32) (y t' : Addr) (V' : Cell) (cd' : Int32) (k : Nat) (g : Nat → Int32) (z : Int32) (htab : tab.before sargs s = true) (hfr : 2 ≤ R.frames) (hlo : W + 28 ≤ R.locals) :
    Back l R p e below s sargs yN len W (fun A₁ a₁ => A₁.cells + 0 ≤ R.cells ∧ A₁.slots + 0 ≤ R.slots ∧ P x t V cd n f y t' V' cd' k g z a₁ A₁.U) (fun A₁ _ v₁ B₁ => Says01 (SameT n f k g) v₁ A₁.U B₁.U ∧ B₁.locs = A₁.locs ++ [] ∧ B₁.cells = A₁.cells + 0 ∧ B₁.slots = A₁.slots + 0) :=
  (law l x t V cd n f y t' V' cd' k g z).pays htab hfr (by omega)
end SEq
end StrChars
namespace StrChars.Road
open Jvm Sem ClassFile Op Lib Jvm.Stand Jvm.Free Jvm.Free.XT
open Jvm.Lib.Cold (StaticIs)
/-- the words of String.equals(Object) -/
abbrev wordsEq : List Jvm.Cond := [.code SEq.yN SEq.yB 3 (some .boolean), .initialized ST, .classLink ST 10 ST, .fieldLink ST 38 ST "COMPACT_STRINGS" "Z", .fieldLink ST 15 ST "coder" "B", .fieldLink ST 9 ST "value" "[B", .methodLink ST 541 LEq.yN, .static LEq.yN, .code LEq.yN LEq.yB 3 (some .boolean), .initialized "java/lang/StringLatin1"]
theorem tabEq_of {a : Array Value} {s : State} (h : ∀ w ∈ wordsEq, w.before a s = true) : SEq.tab.before a s = true := by
  have hl : LEq.tab.before a s = true := unparts (wk h (.code LEq.yN LEq.yB 3 (some .boolean))) (wks h (.initialized LEq.yN.cls :: LEq.site))
  have q := consq hl h
  exact unparts (wk q (.code SEq.yN SEq.yB 3 (some .boolean))) (wks q (.initialized SEq.yN.cls :: SEq.site))
theorem movedEq {Z s : State} {a0 args : Array Value} (hZ : Z.Warmed39 s.vm) (hw : ∀ d ∈ wordsEq, d.before a0 Z = true) : ∀ d ∈ wordsEq, d.before args s = true := fun d hd => by
  have t : ∀ d ∈ wordsEq, (d.onTables && d.keepsFace) = true := by decide +kernel
  exact RoadKit.mv hZ (hw d hd) (t d hd)
/-- the road's facts of a String, as the laws ask it -/
theorem txt_of {Z U : State} {a0 : Array Value} {kI : Nat} (wi : (Jvm.Cond.instantiable ST kI).before a0 Z = true) (al : Z.vm.Alike U.vm) {x t : Addr} {kb : ClassId} {cs : List Int32} {cd N2 : Int32} {vs : List Value} (E : RoadKit.Exa Z U.heap x ST) (V : RoadKit.Fld Z U.heap x ST "value" "[B" (.ref t)) (C : RoadKit.Fld Z U.heap x ST "coder" "B" (.int cd)) (K : RoadKit.Arv Z U.heap t kb .byte N2 vs (.int 0)) (hc : CodA cs cd N2 vs) (hb : ∀ c ∈ cs, ¬ c < 0 ∧ ¬ (65535 : Int32) < c) (l2 : cs.length ≤ 4000) :
    ∃ A, Txt x t A cd cs.length (fun j => cs.getD j 0) U := by
  obtain ⟨A, K1, K2, K3, K4, K5, K6⟩ := K
  have hcod := hc.cod (by omega) K3 K5
  obtain ⟨D, fV, fC, hB, F1, F2, g1, g2, -, -⟩ := strObj wi al E V C
  exact ⟨A, ⟨_, hB.2.2.1, D, hB.1, rfl, by cases q : D.vm <;> first | rfl | exact absurd q (hB.2.1.2 _)⟩, Has.of hB F1 g1, Has.of hB F2 g2, ⟨K1.1, State.isArrayOf_alike al K1.2.1, K1.2.2, by rcases hcod with ⟨-, q, -⟩ | ⟨-, q, -⟩ <;> omega⟩, hcod, fun j hj => by
    have e : cs.getD j 0 = cs[j] := by simp [List.getD_eq_getElem?_getD, hj]
    show ¬ cs.getD j 0 < 0 ∧ ¬ 65535 < cs.getD j 0
    rw [e]; exact hb _ (List.getElem_mem _)⟩
theorem same_list (cs ds : List Int32) : SameT cs.length (fun j => cs.getD j 0) ds.length (fun j => ds.getD j 0) ↔ cs = ds := by
  constructor
  · rintro ⟨e, q⟩
    refine List.ext_getElem e fun j h1 h2 => ?_
    have := q j h1
    simpa [List.getD_eq_getElem?_getD, h1, h2] using this
  · rintro rfl
    exact ⟨rfl, fun _ _ => rfl⟩
/-- **equals(Object) OF TWO SUCH STRINGS**: 1 just where the chars are the same -/
theorem eqW {p : Program} {l : Launch} {e : Env} {R : Room} {s : State} {args : Array Value} {below : List Frame} {len W : Nat} {Z : State} {a0 : Array Value} {h : Heap} (hZ : Z.Warmed39 s.vm) (hw : ∀ d ∈ wordsEq, d.before a0 Z = true) {kI : Nat} (wi : (Jvm.Cond.instantiable ST kI).before a0 Z = true)
    {x t : Addr} {kb : ClassId} {cs : List Int32} {cd N2 : Int32} {vs : List Value} (E : RoadKit.Exa Z h x ST) (V : RoadKit.Fld Z h x ST "value" "[B" (.ref t)) (C : RoadKit.Fld Z h x ST "coder" "B" (.int cd)) (K : RoadKit.Arv Z h t kb .byte N2 vs (.int 0)) (hc : CodA cs cd N2 vs) (hb : ∀ c ∈ cs, ¬ c < 0 ∧ ¬ (65535 : Int32) < c) (l2 : cs.length ≤ 4000)
    {y t' : Addr} {kb' : ClassId} {ds : List Int32} {cd' N2' : Int32} {vs' : List Value} (E' : RoadKit.Exa Z h y ST) (V' : RoadKit.Fld Z h y ST "value" "[B" (.ref t')) (C' : RoadKit.Fld Z h y ST "coder" "B" (.int cd')) (K' : RoadKit.Arv Z h t' kb' .byte N2' vs' (.int 0)) (hc' : CodA ds cd' N2' vs') (hb' : ∀ c ∈ ds, ¬ c < 0 ∧ ¬ (65535 : Int32) < c) (l2' : ds.length ≤ 4000)
    {z : Int32} (S : RoadKit.Sta Z h ST "COMPACT_STRINGS" "Z" (.int z)) (hz : ¬ z = 0) (hfr : 2 ≤ R.frames) (hlo : W + 28 ≤ R.locals) :
    Back l R p e below s args (⟨"java/lang/String", "equals", "(Ljava/lang/Object;)Z"⟩ : MethodName) len W (fun P a => a = #[.ref x, .ref y] ∧ P.U.heap = h ∧ P.cells + 0 ≤ R.cells ∧ P.slots + 0 ≤ R.slots)
      (fun P _ v B => ∃ L, (((v = some (.int 1) ∧ cs = ds) ∨ (v = some (.int 0) ∧ ¬ cs = ds)) ∧ L = [] ∧ B.U.heap = h) ∧ B.locs = P.locs ++ L ∧ B.cells = P.cells + 0 ∧ B.slots = P.slots + 0) := by
  intro m meth c P g ig mk a X hg hsize hdg hW hn hp'
  obtain ⟨rfl, rfl, r1, r2⟩ := hp'
  have al : Z.vm.Alike P.U.vm := hZ.alike.trans X.warmed.alike
  obtain ⟨A, hx⟩ := txt_of wi al E V C K hc hb l2
  obtain ⟨A', hy⟩ := txt_of wi al E' V' C' K' hc' hb' l2'
  obtain ⟨v, B, X', ⟨⟨w, hv, hh, hq⟩, hl, hk, hs⟩, st⟩ := SEq.pays x t A cd cs.length (fun j => cs.getD j 0) y t' A' cd' ds.length (fun j => ds.getD j 0) z (tabEq_of (movedEq hZ hw)) hfr hlo m meth c P g ig mk _ X hg hsize hdg hW hn ⟨r1, r2, rfl, hx, hy, sta_is al S, hz⟩
  refine ⟨v, B, X', ⟨[], ⟨?_, rfl, hh⟩, hl, hk, hs⟩, st⟩
  rcases hq with ⟨rfl, q⟩ | ⟨rfl, q⟩
  · exact Or.inl ⟨hv, (same_list cs ds).mp q⟩
  · exact Or.inr ⟨hv, fun e => q ((same_list cs ds).mpr e)⟩
end StrChars.Road
namespace StrChars.Road
open Jvm Sem ClassFile Op Lib Jvm.Stand Jvm.Free Jvm.Free.XT
open Jvm.Lib.Cold (StaticIs)
/-- what backV says of its String, as the contracts of this text ask it: cs's low bytes, coder 0 -/
theorem codOf {cs : List Int32} {n : Nat} (hn : cs.length = n) (hb : ∀ c ∈ cs, ¬ 255 < c) : CodA cs 0 (Int32.ofNat n) ((cs.map lo8).map Value.int) := Or.inl ⟨rfl, by rw [hn], by simp [List.map_map, Function.comp_def], hb⟩
end StrChars.Road
end Jvm.Pilot.@@N@@

namespace Jvm.Pilot.@@N@@
open Jvm Jvm.ClassFile Sem Op Lib Jvm.Free Jvm.Stand Jvm.LawKit Jvm.RoadKit Bundle Jvm.Pilot.@@N@@.Jvm.D
/-! own kit: the goal of a walk as one word, and how a step and a return change it -/
def Gl (tb : Tables) (e : Env) (below : List Frame) (s : State) (Q : Option Value → Heap → List Loc → Prop) (ce sl : Nat) (A : State) : Prop :=
  ∃ s₂ o, Steps tb e below A s₂ ∧ s₂.status = .running ∧ Ended s₂ below o ∧ ∃ v L, o = .returned v ∧ Q v s₂.heap L ∧ FrameEnd s o s₂ L ce sl
theorem Gl.pre {tb : Tables} {e : Env} {below : List Frame} {s : State} {Q : Option Value → Heap → List Loc → Prop} {ce sl : Nat} {A B : State} (h : ∀ t, Steps tb e below B t → Steps tb e below A t) (g : Gl tb e below s Q ce sl B) : Gl tb e below s Q ce sl A := by
  obtain ⟨s2, o, h1, r⟩ := g
  exact ⟨s2, o, h _ h1, r⟩
theorem Gl.out {p : Program} {l : Launch} {e : Env} {R : Room} {s : State} {m : MethodId} {args : Array Value} {below : List Frame} {meth : Method} {c : Code} {T : State} {locs : List Loc} {cells slots : Nat}
    (X : Stand p l e R s m args below meth c T locs cells slots) {Q : Option Value → Heap → List Loc → Prop} {ce sl : Nat} {g : JFrame} {v : Option Value} (hv : meth.sig.returnType = none → v = none) (hlk : meth.locks = false)
    (k : ∀ fs, (∀ (f : JFrame) (acts : List Action), f.method = m → f.locked = none → f.entered = [] → (doReturn e (T.setTop f) acts v).1 = T.setFrames fs) → Steps p.tables e below (T.setTop g) (T.setFrames fs))
    (hq : Q v T.heap locs) (h1 : cells ≤ ce) (h2 : slots ≤ sl) : Gl p.tables e below s Q ce sl (T.setTop g) := by
  obtain ⟨fs, hr, hrun, hended, hW, hsame⟩ := X.leave (v := v) hv hlk
  exact ⟨_, _, k fs hr, hrun, hended, v, locs, rfl, hq, ⟨v, rfl⟩, hW, hsame.mono h1 h2⟩
def bI (b : Bool) : Int32 := if b then 1 else 0
theorem bI_t {b : Bool} (h : b = true) : ¬ bI b = (0 : Int32) := by subst h; decide
theorem bI_f {b : Bool} (h : b = false) : bI b = (0 : Int32) := by subst h; rfl
theorem bI_nar (b : Bool) : nar .boolean (bI b) = bI b := by cases b <;> rfl
theorem bI_inj {a b : Bool} : bI a = bI b ↔ a = b := by cases a <;> cases b <;> decide
theorem own_narO {v : Value} {C : String} (h : v.isRef = true) : narrow (.object C) v = v := by rcases ref_cases h with rfl | ⟨_, rfl⟩ <;> rfl
theorem own_fitO {v : Value} {C : String} (h : v.isRef = true) : fits (.object C) v = true := by rcases ref_cases h with rfl | ⟨_, rfl⟩ <;> rfl
theorem own_ext_refl (h : Heap) : Ext h h := ⟨Nat.le_refl _, fun _ _ q => q⟩
theorem own_ext_ext {hb h h' : Heap} (X : Ext hb h) (E : Ext h h') : Ext hb h' := ⟨Nat.le_trans X.1 E.1, fun a c q => E.2 a c (X.2 a c q)⟩
theorem own_ext_keep {hb h h' : Heap} {ws : List Addr} (X : Ext hb h) (K : Keep h h' ws) (q : ∀ x ∈ ws, hb.size ≤ x) : Ext hb h' := ⟨Nat.le_trans X.1 K.1, fun a c r => K.2.1 a c (X.2 a c r) fun z => absurd (Array.getElem?_eq_some_iff.mp r).1 (Nat.not_lt.mpr (q a z))⟩
theorem own_ext_wr {hb h h' : Heap} {a : Addr} {sl : Nat} {v : Value} (X : Ext hb h) (W : Wr h h' a sl v) (q : hb.size ≤ a) : Ext hb h' := own_ext_keep X (Keep.of_wr W) (allS q all0)
theorem own_declares {Z : State} {a0 : Array Value} {y : MethodName} {bytes : ByteArray} {maxL : Nat} {ret : Option FieldType} (hi : (Jvm.Cond.instanceMethod y).before a0 Z = true) (hc : (Jvm.Cond.code y bytes maxL ret).before a0 Z = true) : (Jvm.Cond.declares y).before a0 Z = true := by
  obtain ⟨mk, methM, hnamed, hmethM, hstM, habM⟩ := Cond.instanceMethod_spec hi
  obtain ⟨methM', cM, hmethM', -, -, -, -, -, -, hsigM⟩ := Cond.code_spec hnamed hc
  cases hmethM.symm.trans hmethM'
  simp [Cond.before, Cond.holds, Cond.value, hnamed, hmethM, hstM, hsigM]
theorem own_shl0 (x : Int32) : x <<< ((0 : Int32) &&& 31) = x := by
  have : (0 : Int32) &&& 31 = 0 := by decide
  rw [this]; simp
theorem own_shr0 (x : Int32) : x >>> ((0 : Int32) &&& 31) = x := by
  have : (0 : Int32) &&& 31 = 0 := by decide
  rw [this]; simp
theorem own_sub0 (x : Int32) : x - (0 : Int32) = x := by simp
theorem own_keep0 {h h' : Heap} (K : Keep h h' []) : Ext h h' := ⟨K.1, fun a c q => K.2.1 a c q nin0⟩
/-! own kit, wide: a walk that may load String constants -/
def GlW (tb : Tables) (e : Env) (below : List Frame) (s : State) (EL : List (String × Nat)) (Z : State) (Q : Option Value → Heap → List Loc → Prop) (ce sl : Nat) (A : State) : Prop :=
  ∃ s₂ o, Steps tb e below A s₂ ∧ s₂.status = .running ∧ Ended s₂ below o ∧ ∃ v L, o = .returned v ∧ Q v s₂.heap L ∧ CHr Z EL s.vm s.heap s₂.vm s₂.heap ∧ ReturnedEndW s o s₂ L ce sl
theorem GlW.pre {tb : Tables} {e : Env} {below : List Frame} {s : State} {EL : List (String × Nat)} {Z : State} {Q : Option Value → Heap → List Loc → Prop} {ce sl : Nat} {A B : State} (h : ∀ t, Steps tb e below B t → Steps tb e below A t) (g : GlW tb e below s EL Z Q ce sl B) : GlW tb e below s EL Z Q ce sl A := by
  obtain ⟨s2, o, h1, r⟩ := g
  exact ⟨s2, o, h _ h1, r⟩
theorem GlW.out {p : Program} {l : Launch} {e : Env} {R : Room} {s : State} {m : MethodId} {args : Array Value} {below : List Frame} {meth : Method} {c : Code} {T : State} {locs : List Loc} {cells slots : Nat} {vm0 : Vm} {k0 : Nat} {h0 H : Heap} {Z : State} {a0 : Array Value} {EL : List (String × Nat)}
    (X : Stand p l e R (s.setVm vm0) m args below meth c T locs cells slots) (hsh : s.heap = h0) (eT : T.heap = H) (hS : s.Since vm0 k0) (hk : k0 ≤ H.size) (hZ : Z.Warmed39 (s.setVm vm0).vm) (hEL : EW Z a0 EL) (CR : CHr Z EL s.vm h0 vm0 H)
    {Q : Option Value → Heap → List Loc → Prop} {ce sl : Nat} {g : JFrame} {v : Option Value} (hv : meth.sig.returnType = none → v = none) (hlk : meth.locks = false)
    (k : ∀ fs, (∀ (f : JFrame) (acts : List Action), f.method = m → f.locked = none → f.entered = [] → (doReturn e (T.setTop f) acts v).1 = T.setFrames fs) → Steps p.tables e below (T.setTop g) (T.setFrames fs))
    (hq : Q v T.heap locs) (h1 : cells ≤ ce) (h2 : slots ≤ sl) : GlW p.tables e below s EL Z Q ce sl (T.setTop g) := by
  subst hsh eT
  obtain ⟨fs, hr, hrun, hended, hR⟩ := X.leaveW hS hk (v := v) hv hlk
  exact ⟨_, _, k fs hr, hrun, hended, v, locs, rfl, hq, (show CHr Z EL s.vm s.heap T.vm T.heap from CR.trans (CHv.at X hZ hEL CR.1)), hR.1, hR.2.1, hR.2.2.1, hR.2.2.2.mono h1 h2⟩
theorem sa_in : ∀ d ∈ Bundle.stringAtoms, d ∈ tables_1 := by decide +kernel
theorem string_atoms {Z : State} {a0 : Array Value} (hw : ∀ d ∈ tables_1, d.before a0 Z = true) : ∀ d ∈ Bundle.stringAtoms, d.before a0 Z = true := fun d hd => hw d (sa_in d hd)
theorem and255_chars (x : Int32) : ¬ nar .char ((x &&& (255 : Int32)).toUInt32.toUInt16.toUInt32.toInt32) < 0 ∧ ¬ (255 : Int32) < nar .char ((x &&& (255 : Int32)).toUInt32.toUInt16.toUInt32.toInt32) := by
  have t : ∀ k : Fin 256, ¬ nar .char ((Int32.ofNat k.val).toUInt32.toUInt16.toUInt32.toInt32) < 0 ∧ ¬ (255 : Int32) < nar .char ((Int32.ofNat k.val).toUInt32.toUInt16.toUInt32.toInt32) := by decide +kernel
  have h : (x &&& 255).toBitVec.toNat < 256 := by
    simp only [Int32.toBitVec_and, BitVec.toNat_and]
    exact Nat.lt_succ_of_le Nat.and_le_right
  have e : (x &&& 255) = Int32.ofNat (x &&& 255).toBitVec.toNat := by
    apply Int32.toBitVec_inj.mp
    show _ = BitVec.ofNat 32 _
    rw [BitVec.ofNat_toNat]; simp
  rw [e]
  exact t ⟨_, h⟩
theorem al0 {P : Int32 → Prop} : ∀ c ∈ ([] : List Int32), P c := fun _ q => nomatch q
theorem alS {P : Int32 → Prop} {y : Int32} {L : List Int32} (q : P y) (r : ∀ c ∈ L, P c) : ∀ c ∈ y :: L, P c := fun x z => (List.mem_cons.mp z).elim (fun u => u ▸ q) (r x)
/-- the String at x spells cs, each sign 0 to 255 -/
def StrV (Z : State) (h : Heap) (x t : Addr) (k : ClassId) (cs : List Int32) : Prop := Exa Z h x "java/lang/String" ∧ Fld Z h x "java/lang/String" "value" "[B" (.ref t) ∧ Fld Z h x "java/lang/String" "coder" "B" (.int 0) ∧ Arv Z h t k .byte (Int32.ofNat cs.length) ((cs.map (fun c => c.toInt8.toInt32)).map Value.int) (.int 0) ∧ (∀ c ∈ cs, ¬ c < 0 ∧ ¬ (255 : Int32) < c) ∧ cs.length ≤ 4000
theorem StrV.ext {Z : State} {h h' : Heap} {x t : Addr} {k : ClassId} {cs : List Int32} (F : StrV Z h x t k cs) (E : Ext h h') : StrV Z h' x t k cs := ⟨F.1.ext E, F.2.1.ext E, F.2.2.1.ext E, F.2.2.2.1.ext E, F.2.2.2.2⟩
theorem up255 {cs : List Int32} (h : ∀ c ∈ cs, ¬ c < 0 ∧ ¬ (255 : Int32) < c) : ∀ c ∈ cs, ¬ c < 0 ∧ ¬ (65535 : Int32) < c := fun c hc => ⟨(h c hc).1, fun q => (h c hc).2 (by rw [Int32.lt_iff_toInt_lt] at q ⊢; have e1 : (65535 : Int32).toInt = 65535 := rfl; have e2 : (255 : Int32).toInt = 255 := rfl; omega)⟩
/-- a String or null -/
def SO (Z : State) (h : Heap) (v : Value) (o : Option (List Int32)) : Prop := (v = .null ∧ o = none) ∨ ∃ (x t : Addr) (k : ClassId) (cs : List Int32), v = .ref x ∧ o = some cs ∧ StrV Z h x t k cs
theorem SO.isRef {Z : State} {h : Heap} {v : Value} {o : Option (List Int32)} (F : SO Z h v o) : v.isRef = true := by rcases F with ⟨rfl, -⟩ | ⟨_, _, _, _, rfl, -⟩ <;> rfl
theorem SO.ext {Z : State} {h h' : Heap} {v : Value} {o : Option (List Int32)} (F : SO Z h v o) (E : Ext h h') : SO Z h' v o := by
  rcases F with F | ⟨x, t, k, cs, h1, h2, F⟩
  · exact Or.inl F
  · exact Or.inr ⟨x, t, k, cs, h1, h2, F.ext E⟩
/-- a String whose value is still null is no booked constant, nor a constant's array -/
theorem own_safe_null {Z : State} {EL : List (String × Nat)} {vm : Vm} {h : Heap} {x : Addr} (hal : Z.vm.Alike vm) (E : Exa Z h x "java/lang/String") (F : Fld Z h x "java/lang/String" "value" "[B" .null) : Safe Z EL vm h x := fun B => by
  obtain ⟨p, -, u, a, -, q, -, G, rfl | rfl⟩ := B
  · obtain ⟨cell, cf, k, i, f, h1, h2, h3, h4, h5, h6, h7⟩ := F
    cases (show h[q.sa]? = some q.sC from G.ha).symm.trans h1
    obtain ⟨cS, ⟨⟨-, -, -, ⟨c1, k1, i1, f1, -⟩, -, -, -, v1, -⟩, -⟩, -⟩ := G
    obtain ⟨k3, e3, -⟩ := State.fieldFound?_setVm (s := Z) hal h2
    have e4 := (show (Wst Z vm h).fieldFound? _ _ _ = _ from e3).symm.trans f1
    simp only [Option.some.injEq, Prod.mk.injEq] at e4
    rw [← e4.2.2.2, h7] at v1
    simp at v1
  · obtain ⟨cell, k, e1, e2, e3, -, -⟩ := E
    cases (show h[q.sd]? = some q.SA from G.hd).symm.trans e1
    obtain ⟨cS, -, -, f, -⟩ := G
    have f' : Z.vm.findClass "[B" = some q.SA.cls := by rw [← hal.findClass]; exact f
    obtain ⟨k1, q1, q2⟩ := Vm.findClass_spec f'
    obtain ⟨k2, q3, q4⟩ := Vm.findClass_spec e2
    cases q1.symm.trans q3
    have := q2.symm.trans q4
    simp at this

def EL1 : List (String × Nat) := [("java/lang/String", 7)]
theorem ew_all {Z : State} {a0 : Array Value} (hw : ∀ d ∈ tables_1, d.before a0 Z = true) : EW Z a0 EL1 := (EW.cons (hw _ (List.mem_of_getElem? (i := 18) rfl)) (by decide) EW.nil)
theorem str_words {Z : State} {a0 : Array Value} (hw : ∀ d ∈ tables_1, d.before a0 Z = true) : ∀ d ∈ StrChars.Road.words, d.before a0 Z = true := fun d hd => hw d ((by decide +kernel : ∀ d ∈ StrChars.Road.words, d ∈ tables_1) d hd)
theorem eq_words {Z : State} {a0 : Array Value} (hw : ∀ d ∈ tables_1, d.before a0 Z = true) : ∀ d ∈ StrChars.Road.wordsEq, d.before a0 Z = true := fun d hd => hw d ((by decide +kernel : ∀ d ∈ StrChars.Road.wordsEq, d ∈ tables_1) d hd)
theorem own_nar {p : Int32} (h : ¬ p < 0 ∧ ¬ (255 : Int32) < p) : nar .char p = p := by
  have e : p = Int32.ofNat p.toBitVec.toNat := by
    apply Int32.toBitVec_inj.mp
    show _ = BitVec.ofNat 32 _
    rw [BitVec.ofNat_toNat]; simp
  have t : ∀ k : Fin 256, nar .char (Int32.ofNat k.val) = Int32.ofNat k.val := by decide +kernel
  have hlt : p.toBitVec.toNat < 256 := by
    obtain ⟨h1, h2⟩ := h
    rw [Int32.lt_iff_toInt_lt] at h1 h2
    have e0 : (0 : Int32).toInt = 0 := rfl
    have e2 : (255 : Int32).toInt = 255 := rfl
    have := BitVec.toInt_eq_toNat_cond p.toBitVec
    have e3 : p.toInt = p.toBitVec.toInt := rfl
    split at this <;> omega
  rw [e]; exact t ⟨_, hlt⟩
def mkO (c p q : Int32) : Option (List Int32) := if c = 3 then none else if c = 0 then some [] else if c = 1 then some [p] else some [p, q]
def mt (o1 o2 o3 o4 : Option (List Int32)) : Bool := (decide (o1 = none) || decide (o1 = o3)) && (decide (o2 = none) || decide (o2 = o4))
def sm (a b c d e f : Int32) : Bool := if d = 3 then false else if a = d then (if a = 0 then true else if a = 1 then decide (b = e) else decide (b = e) && decide (c = f)) else false
theorem and3 (x : Int32) : (x &&& 3) = 0 ∨ (x &&& 3) = 1 ∨ (x &&& 3) = 2 ∨ (x &&& 3) = 3 := by
  have t : ∀ k : Fin 4, Int32.ofNat k.val = 0 ∨ Int32.ofNat k.val = 1 ∨ Int32.ofNat k.val = 2 ∨ Int32.ofNat k.val = 3 := by decide +kernel
  have h : (x &&& 3).toBitVec.toNat < 4 := by
    simp only [Int32.toBitVec_and, BitVec.toNat_and]
    exact Nat.lt_succ_of_le Nat.and_le_right
  have e : (x &&& 3) = Int32.ofNat (x &&& 3).toBitVec.toNat := by
    apply Int32.toBitVec_inj.mp
    show _ = BitVec.ofNat 32 _
    rw [BitVec.ofNat_toNat]; simp
  rw [e]; exact t ⟨_, h⟩
theorem mt1 {a b c d e f : Int32} (ha : a = 0 ∨ a = 1 ∨ a = 2 ∨ a = 3) (hd : d = 0 ∨ d = 1 ∨ d = 2 ∨ d = 3) : (decide (mkO a b c = none) || decide (mkO a b c = mkO d e f)) = (decide (a = 3) || sm a b c d e f) := by
  rcases ha with rfl | rfl | rfl | rfl <;> rcases hd with rfl | rfl | rfl | rfl <;> simp [mkO, sm]
theorem mt2 {a b c d e f a' b' c' d' e' f' : Int32} (ha : a = 0 ∨ a = 1 ∨ a = 2 ∨ a = 3) (hd : d = 0 ∨ d = 1 ∨ d = 2 ∨ d = 3) (ha' : a' = 0 ∨ a' = 1 ∨ a' = 2 ∨ a' = 3) (hd' : d' = 0 ∨ d' = 1 ∨ d' = 2 ∨ d' = 3) : mt (mkO a b c) (mkO a' b' c') (mkO d e f) (mkO d' e' f') = ((decide (a = 3) || sm a b c d e f) && (decide (a' = 3) || sm a' b' c' d' e' f')) := by
  show ((decide (mkO a b c = none) || decide (mkO a b c = mkO d e f)) && (decide (mkO a' b' c' = none) || decide (mkO a' b' c' = mkO d' e' f'))) = _
  rw [mt1 ha hd, mt1 ha' hd']
theorem rng_mask (x : Int32) : ¬ (x &&& (255 : Int32)).toUInt32.toUInt16.toUInt32.toInt32 < 0 ∧ ¬ (255 : Int32) < (x &&& (255 : Int32)).toUInt32.toUInt16.toUInt32.toInt32 := by
  rw [i2c_mask]
  have h := c_and x 255 (by decide)
  have e2 : (255 : Int32).toInt = 255 := rfl
  have e0 : (0 : Int32).toInt = 0 := rfl
  rw [Int32.lt_iff_toInt_lt, Int32.lt_iff_toInt_lt]
  omega
theorem rng_xor {a : Int32} (ha : ¬ a < 0 ∧ ¬ (255 : Int32) < a) (x : Int32) : ¬ (a ^^^ (x &&& (255 : Int32))).toUInt32.toUInt16.toUInt32.toInt32 < 0 ∧ ¬ (255 : Int32) < (a ^^^ (x &&& (255 : Int32))).toUInt32.toUInt16.toUInt32.toInt32 := by
  have e : a ^^^ (x &&& 255) = (a ^^^ (x &&& 255)) &&& 255 := by
    have h1 : a = a &&& 255 := by
      have t : ∀ k : Fin 256, Int32.ofNat k.val = Int32.ofNat k.val &&& 255 := by decide +kernel
      have hlt : a.toBitVec.toNat < 256 := by
        obtain ⟨h1, h2⟩ := ha
        rw [Int32.lt_iff_toInt_lt] at h1 h2
        have e0 : (0 : Int32).toInt = 0 := rfl
        have e2 : (255 : Int32).toInt = 255 := rfl
        have := BitVec.toInt_eq_toNat_cond a.toBitVec
        have e3 : a.toInt = a.toBitVec.toInt := rfl
        split at this <;> omega
      have e : a = Int32.ofNat a.toBitVec.toNat := by
        apply Int32.toBitVec_inj.mp
        show _ = BitVec.ofNat 32 _
        rw [BitVec.ofNat_toNat]; simp
      rw [e]; exact t ⟨_, hlt⟩
    conv => lhs; rw [h1]
    conv => rhs; rw [h1]
    apply Int32.toBitVec_inj.mp
    simp only [Int32.toBitVec_xor, Int32.toBitVec_and]
    generalize a.toBitVec = A
    generalize x.toBitVec = X
    generalize (255 : Int32).toBitVec = M
    ext i hi
    simp only [BitVec.getElem_and, BitVec.getElem_xor]
    cases A[i] <;> cases X[i] <;> cases M[i] <;> rfl
  rw [e]; exact rng_mask _

theorem d3_0 : decode jdk_42_method_149_code 0 = .ok (.aload_n 0, 1) := by decide +kernel
theorem d3_1 : decode jdk_42_method_149_code 1 = .ok (.invokespecial 1, 3) := by decide +kernel
theorem d3_4 : decode jdk_42_method_149_code 4 = .ok (.iload_n 3, 1) := by decide +kernel
theorem d3_5 : decode jdk_42_method_149_code 5 = .ok (.ifCond .ne 22, 3) := by decide +kernel
theorem d3_8 : decode jdk_42_method_149_code 8 = .ok (.aload_n 0, 1) := by decide +kernel
theorem d3_9 : decode jdk_42_method_149_code 9 = .ok (.ldc 7, 2) := by decide +kernel
theorem d3_11 : decode jdk_42_method_149_code 11 = .ok (.getfield 9, 3) := by decide +kernel
theorem d3_14 : decode jdk_42_method_149_code 14 = .ok (.putfield 9, 3) := by decide +kernel
theorem d3_17 : decode jdk_42_method_149_code 17 = .ok (.aload_n 0, 1) := by decide +kernel
theorem d3_18 : decode jdk_42_method_149_code 18 = .ok (.ldc 7, 2) := by decide +kernel
theorem d3_20 : decode jdk_42_method_149_code 20 = .ok (.getfield 15, 3) := by decide +kernel
theorem d3_23 : decode jdk_42_method_149_code 23 = .ok (.putfield 15, 3) := by decide +kernel
theorem d3_26 : decode jdk_42_method_149_code 26 = .ok (.return_, 1) := by decide +kernel
theorem pn_java_lang_String : plainName "java/lang/String" = true := by first | (simp [plainName, overriddenIn]; done) | decide +kernel
theorem ef_strE2 (m : MethodId) (x0 : Addr) (x1 : Addr) (x2 : Int32) (x3 : Int32) : entryFrame m #[(.ref x0), (.ref x1), (.int x2), (.int x3), .null] 6 = mkF m 0 #[.val (.ref x0), .val (.ref x1), .val (.int x2), .val (.int x3), .val .null, .unset] [] := by first | (simp [entryFrame, mkF, argsToLocals, Value.category]; done) | rfl
def Q_strE2 (Z : State) (a1 : Addr) (a2 : Addr) (h0 : Heap) (n0 : Nat) (v : Option Value) (h : Heap) (L : List Loc) : Prop := ∃ t : Addr, ∃ kt : ClassId, v = none ∧ Fr n0 L ∧ (Keep h0 h [a1]) ∧ (Fld Z h a1 "java/lang/String" "value" "[B" (.ref t)) ∧ (Fld Z h a1 "java/lang/String" "coder" "B" (.int 0)) ∧ (Arv Z h t kt .byte 0 [] (.int 0))
set_option maxRecDepth 65536 in
set_option maxHeartbeats 40000000 in
theorem strE2 (l : Launch) (Z : State) (a0 : Array Value) (hw : ∀ d ∈ tables_1, d.before a0 Z = true) (ws : List Jvm.Cond) (a1 : Addr) (a2 : Addr) (h0 : Heap) (n0 : Nat) (Z0 : n0 ≤ h0.size) (g_a1 : n0 ≤ a1) (E_a1 : Exa Z h0 a1 "java/lang/String") (F_value_a1 : Fld Z h0 a1 "java/lang/String" "value" "[B" .null) (F_coder_a1 : Fld Z h0 a1 "java/lang/String" "coder" "B" (.int (0 : Int32))) :
    MetFree l (⟨"java/lang/String", "<init>", "([CIILjava/lang/Void;)V"⟩ : MethodName) (head1 (Jvm.Cond.code (⟨"java/lang/String", "<init>", "([CIILjava/lang/Void;)V"⟩ : MethodName) jdk_42_method_149_code 6 none :: ws) ({ frames := 1, cells := 4, slots := 8, locals := 12 } : Room)) (fun a U => a = #[(.ref a1), (.ref a2), (.int (0 : Int32)), (.int (0 : Int32)), .null] ∧ Z.Warmed39 U.vm ∧ U.heap = h0 ∧ CHv Z EL1 U.vm h0) (fun _ _ _ _ _ => True) (fun _ U o U' => ∃ v L, o = .returned v ∧ Q_strE2 Z a1 a2 h0 n0 v U'.heap L ∧ CHr Z EL1 U.vm U.heap U'.vm U'.heap ∧ ReturnedEndW U o U' L ({ frames := 1, cells := 4, slots := 8, locals := 12 } : Room).cells ({ frames := 1, cells := 4, slots := 8, locals := 12 } : Room).slots) := by
  refine MetFree.of_bodySF (plainFor_of_name pn_java_lang_String) hisR ?_
  intro p e s m args below meth c s₁ Bd hml0 hP hK
  obtain ⟨rfl, hZ, hh, CH0⟩ := hP
  have hx := Bd.exec
  have hby := Bd.bytes
  have hml : c.maxLocals = 6 := hml0
  have hown : s.vm.findClass "java/lang/String" = some m.cls := findClass_of_methodNamed Bd.named
  have hnm := (name_of_methodNamed Bd.named Bd.method).1
  have hret : meth.sig.returnType = none := Bd.returns
  have hlk : meth.locks = false := BodyLoose.notSynchronized Bd
  have X0 : Stand p l e ({ frames := 1, cells := 4, slots := 8, locals := 12 } : Room) (s.setVm s.vm) m #[(.ref a1), (.ref a2), (.int (0 : Int32)), (.int (0 : Int32)), .null] below meth c s₁ [] 0 0 := Stand.of_body Bd
  have e0 : s₁.heap = h0 := by rw [← hh, Bd.state]; rfl
  have N0 := Fr.nil n0
  have hZ : Z.Warmed39 (s.setVm s.vm).vm := hZ
  have hown : (s.setVm s.vm).vm.findClass "java/lang/String" = some m.cls := hown
  have hsh : s.heap = h0 := hh
  have hS0 : s.Since s.vm 0 := State.WarmedH.since (State.WarmedH.refl s) 0
  have hk0 : 0 ≤ h0.size := Nat.zero_le _
  have hEL : EW Z a0 EL1 := ew_all hw
  have CR : CHr Z EL1 s.vm h0 s.vm h0 := CHr.refl CH0
  have K0 : Keep h0 h0 [a1] := Keep.refl h0 _
  show GlW p.tables e below s EL1 Z (Q_strE2 Z a1 a2 h0 n0) 4 8 _
  refine GlW.pre (B := s₁.setTop (mkF m 0 #[.val (.ref a1), .val (.ref a2), .val (.int (0 : Int32)), .val (.int (0 : Int32)), .val .null, .unset] [])) (fun _ k => castTop (ef_strE2 m a1 a2 (0 : Int32) (0 : Int32)) k) ?_
  have Sf_a1 : Safe Z EL1 s.vm h0 a1 := own_safe_null hZ.alike E_a1 F_value_a1
  refine GlW.pre (B := s₁.setTop (mkF m 1 #[.val (.ref a1), .val (.ref a2), .val (.int (0 : Int32)), .val (.int (0 : Int32)), .val .null, .unset] [(.ref a1)])) (fun _ k => XS.aloadN X0.here hx rfl (hb hby d3_0) rfl rfl k) ?_
  obtain ⟨T1, X1, e1, st1⟩ := initO X0 hx hZ hown (hw _ (List.mem_of_getElem? (i := 15) rfl)) (hw _ (List.mem_of_getElem? (i := 16) rfl)) (hw _ (List.mem_of_getElem? (i := 17) rfl)) e0 (g := (mkF m 1 #[.val (.ref a1), .val (.ref a2), .val (.int (0 : Int32)), .val (.int (0 : Int32)), .val .null, .unset] [(.ref a1)])) rfl (by rw [hml]; rfl) rfl (hb hby d3_1) (by decide) (W := 0) (by show 2 * 0 + _ ≤ _; exact Nat.le_of_eq rfl) (by decide)
  refine GlW.pre (B := T1.setTop (mkF m 4 #[.val (.ref a1), .val (.ref a2), .val (.int (0 : Int32)), .val (.int (0 : Int32)), .val .null, .unset] [])) (fun _ k => st1 _ k) ?_
  refine GlW.pre (B := T1.setTop (mkF m 5 #[.val (.ref a1), .val (.ref a2), .val (.int (0 : Int32)), .val (.int (0 : Int32)), .val .null, .unset] [(.int (0 : Int32))])) (fun _ k => XS.iloadN X1.here hx rfl (hb hby d3_4) rfl k) ?_
  refine GlW.pre (B := T1.setTop (mkF m 8 #[.val (.ref a1), .val (.ref a2), .val (.int (0 : Int32)), .val (.int (0 : Int32)), .val .null, .unset] [])) (fun _ k => XS.ifNo X1.here hx rfl (hb hby d3_5) rfl ((if0 _ _).trans (teq (by decide : (0 : Int32) = (0 : Int32))).2) k) ?_
  refine GlW.pre (B := T1.setTop (mkF m 9 #[.val (.ref a1), .val (.ref a2), .val (.int (0 : Int32)), .val (.int (0 : Int32)), .val .null, .unset] [(.ref a1)])) (fun _ k => XS.aloadN X1.here hx rfl (hb hby d3_8) rfl rfl k) ?_
  obtain ⟨la2, T2, h2, kk2, lb2, kc2, X2, e2, E2, hS2, hk2, hZ2, ho2, E_la2, F_coder_la2, F_value_la2, V_lb2, lt2, ltb2, C2, Li2, sn2, st2⟩ := ldcCH X1 hx hZ hown (hw _ (List.mem_of_getElem? (i := 18) rfl)) (string_atoms hw) e1 hS0 hk0 hEL (List.mem_of_getElem? (i := 0) rfl) CR.1 (vs := []) (z := 0) ⟨by decide, by decide⟩ (by decide) (by decide) (g := (mkF m 9 #[.val (.ref a1), .val (.ref a2), .val (.int (0 : Int32)), .val (.int (0 : Int32)), .val .null, .unset] [(.ref a1)])) rfl (hb hby d3_9) (n := 0) (by decide) (by decide) (by decide) (by decide)
  have CR_q := CR.trans C2
  have Sf_a1_q := C2.safe E_a1.lt Sf_a1
  have Z0 := Nat.le_trans Z0 E2.1
  have E_a1 := E_a1.ext E2
  have F_value_a1 := F_value_a1.ext E2
  have F_coder_a1 := F_coder_a1.ext E2
  have K0 := K0.ext E2
  have CR := CR_q
  have Sf_a1 := Sf_a1_q
  have sn2_a1 := sn2 a1 Sf_a1
  refine GlW.pre (B := T2.setTop (mkF m 11 #[.val (.ref a1), .val (.ref a2), .val (.int (0 : Int32)), .val (.int (0 : Int32)), .val .null, .unset] [(.ref la2), (.ref a1)])) (fun _ k => st2 _ k) ?_
  obtain ⟨T3, X3, e3, st3⟩ := getF X2 hx hZ2 ho2 (host := "") (Or.inl (hw _ (List.mem_of_getElem? (i := 24) rfl))) Via.refl e2 F_value_la2 (g := (mkF m 11 #[.val (.ref a1), .val (.ref a2), .val (.int (0 : Int32)), .val (.int (0 : Int32)), .val .null, .unset] [(.ref la2), (.ref a1)])) rfl rfl (hb hby d3_11)
  refine GlW.pre (B := T3.setTop (mkF m 14 #[.val (.ref a1), .val (.ref a2), .val (.int (0 : Int32)), .val (.int (0 : Int32)), .val .null, .unset] [(.ref lb2), (.ref a1)])) (fun _ k => st3 _ k) ?_
  obtain ⟨T4, h4, X4, e4, W4, st4⟩ := putF X3 hx hZ2 ho2 (host := "") (Or.inl (hw _ (List.mem_of_getElem? (i := 24) rfl))) Via.refl e3 F_value_a1 E_a1 (Or.inr ⟨(hw _ (List.mem_of_getElem? (i := 20) rfl)), rfl, hnm⟩) (hw _ (List.mem_of_getElem? (i := 5) rfl)) (ty := (.array .byte)) (by decide) rfl rfl (g := (mkF m 14 #[.val (.ref a1), .val (.ref a2), .val (.int (0 : Int32)), .val (.int (0 : Int32)), .val .null, .unset] [(.ref lb2), (.ref a1)])) rfl rfl (hb hby d3_14)
  have N4 := Fr.snoc X4 N0 g_a1
  have F_value_a1_n := F_value_a1.same W4
  have CR_q := CR.trans (CHr.wr W4 Sf_a1 CR.1)
  have Sf_a1_q := Safe.wr W4 Sf_a1 CR.1 Sf_a1
  have Z0 := Nat.le_trans Z0 (Keep.of_wr W4).1
  have E_a1 := E_a1.wr W4
  have F_coder_a1 := F_coder_a1.other W4 (Or.inr (slot_ne (Or.inr (hw _ (List.mem_of_getElem? (i := 21) rfl))) (Or.inr (hw _ (List.mem_of_getElem? (i := 20) rfl))) (by decide) (t := .byte) (t' := (.array .byte)) (by decide) (by decide)))
  have K0 := K0.wr W4 (Or.inl (List.mem_of_getElem? (i := 0) rfl))
  have E_la2 := E_la2.wr W4
  have F_coder_la2 := F_coder_la2.other W4 (Or.inl (Ne.symm sn2_a1.1))
  have F_value_la2 := F_value_la2.other W4 (Or.inl (Ne.symm sn2_a1.1))
  have V_lb2 := V_lb2.other W4 (Ne.symm sn2_a1.2)
  have CR := CR_q
  have Sf_a1 := Sf_a1_q
  have hk4 := Nat.le_trans hk2 (Keep.of_wr W4).1
  have F_value_a1 := F_value_a1_n
  refine GlW.pre (B := T4.setTop (mkF m 17 #[.val (.ref a1), .val (.ref a2), .val (.int (0 : Int32)), .val (.int (0 : Int32)), .val .null, .unset] [])) (fun _ k => st4 _ k) ?_
  refine GlW.pre (B := T4.setTop (mkF m 18 #[.val (.ref a1), .val (.ref a2), .val (.int (0 : Int32)), .val (.int (0 : Int32)), .val .null, .unset] [(.ref a1)])) (fun _ k => XS.aloadN X4.here hx rfl (hb hby d3_17) rfl rfl k) ?_
  obtain ⟨la5, T5, h5, kk5, lb5, kc5, X5, e5, E5, hS5, hk5, hZ5, ho5, E_la5, F_coder_la5, F_value_la5, V_lb5, lt5, ltb5, C5, Li5, sn5, st5⟩ := ldcCH X4 hx hZ2 ho2 (hw _ (List.mem_of_getElem? (i := 18) rfl)) (string_atoms hw) e4 hS2 hk4 hEL (List.mem_of_getElem? (i := 0) rfl) CR.1 (vs := []) (z := 0) ⟨by decide, by decide⟩ (by decide) (by decide) (g := (mkF m 18 #[.val (.ref a1), .val (.ref a2), .val (.int (0 : Int32)), .val (.int (0 : Int32)), .val .null, .unset] [(.ref a1)])) rfl (hb hby d3_18) (n := 0) (by decide) (by decide) (by decide) (by decide)
  have CR_q := CR.trans C5
  have Sf_a1_q := C5.safe E_a1.lt Sf_a1
  have Z0 := Nat.le_trans Z0 E5.1
  have E_a1 := E_a1.ext E5
  have F_coder_a1 := F_coder_a1.ext E5
  have K0 := K0.ext E5
  have E_la2 := E_la2.ext E5
  have F_coder_la2 := F_coder_la2.ext E5
  have F_value_la2 := F_value_la2.ext E5
  have V_lb2 := V_lb2.ext E5
  have F_value_a1 := F_value_a1.ext E5
  have CR := CR_q
  have Sf_a1 := Sf_a1_q
  have sn5_a1 := sn5 a1 Sf_a1
  refine GlW.pre (B := T5.setTop (mkF m 20 #[.val (.ref a1), .val (.ref a2), .val (.int (0 : Int32)), .val (.int (0 : Int32)), .val .null, .unset] [(.ref la5), (.ref a1)])) (fun _ k => st5 _ k) ?_
  obtain ⟨T6, X6, e6, st6⟩ := getF X5 hx hZ5 ho5 (host := "") (Or.inl (hw _ (List.mem_of_getElem? (i := 25) rfl))) Via.refl e5 F_coder_la5 (g := (mkF m 20 #[.val (.ref a1), .val (.ref a2), .val (.int (0 : Int32)), .val (.int (0 : Int32)), .val .null, .unset] [(.ref la5), (.ref a1)])) rfl rfl (hb hby d3_20)
  refine GlW.pre (B := T6.setTop (mkF m 23 #[.val (.ref a1), .val (.ref a2), .val (.int (0 : Int32)), .val (.int (0 : Int32)), .val .null, .unset] [(.int 0), (.ref a1)])) (fun _ k => st6 _ k) ?_
  obtain ⟨T7, h7, X7, e7, W7, st7⟩ := putFN X6 hx hZ5 ho5 (hw _ (List.mem_of_getElem? (i := 25) rfl)) Via.refl e6 F_coder_a1 E_a1 (Or.inr ⟨(hw _ (List.mem_of_getElem? (i := 21) rfl)), rfl, hnm⟩) (hw _ (List.mem_of_getElem? (i := 5) rfl)) (ty := .byte) (v' := (.int 0)) (by decide) rfl rfl (g := (mkF m 23 #[.val (.ref a1), .val (.ref a2), .val (.int (0 : Int32)), .val (.int (0 : Int32)), .val .null, .unset] [(.int 0), (.ref a1)])) rfl rfl (hb hby d3_23)
  have N7 := Fr.snoc X7 N4 g_a1
  have F_coder_a1_n := F_coder_a1.same W7
  have CR_q := CR.trans (CHr.wr W7 Sf_a1 CR.1)
  have Sf_a1_q := Safe.wr W7 Sf_a1 CR.1 Sf_a1
  have Z0 := Nat.le_trans Z0 (Keep.of_wr W7).1
  have E_a1 := E_a1.wr W7
  have K0 := K0.wr W7 (Or.inl (List.mem_of_getElem? (i := 0) rfl))
  have E_la2 := E_la2.wr W7
  have F_coder_la2 := F_coder_la2.other W7 (Or.inl (Ne.symm sn2_a1.1))
  have F_value_la2 := F_value_la2.other W7 (Or.inl (Ne.symm sn2_a1.1))
  have V_lb2 := V_lb2.other W7 (Ne.symm sn2_a1.2)
  have F_value_a1 := F_value_a1.other W7 (Or.inr (slot_ne (Or.inr (hw _ (List.mem_of_getElem? (i := 20) rfl))) (Or.inr (hw _ (List.mem_of_getElem? (i := 21) rfl))) (by decide) (t := (.array .byte)) (t' := .byte) (by decide) (by decide)))
  have E_la5 := E_la5.wr W7
  have F_coder_la5 := F_coder_la5.other W7 (Or.inl (Ne.symm sn5_a1.1))
  have F_value_la5 := F_value_la5.other W7 (Or.inl (Ne.symm sn5_a1.1))
  have V_lb5 := V_lb5.other W7 (Ne.symm sn5_a1.2)
  have CR := CR_q
  have Sf_a1 := Sf_a1_q
  have hk7 := Nat.le_trans hk5 (Keep.of_wr W7).1
  have F_coder_a1 := F_coder_a1_n
  refine GlW.pre (B := T7.setTop (mkF m 26 #[.val (.ref a1), .val (.ref a2), .val (.int (0 : Int32)), .val (.int (0 : Int32)), .val .null, .unset] [])) (fun _ k => st7 _ k) ?_
  refine GlW.out X7 hsh e7 hS5 hk7 hZ5 hEL CR (v := none) (fun _ => rfl) hlk (fun fs hr => X7.returnOut hx hret (hb hby d3_26) hr) ?_ (by decide) (by decide)
  show Q_strE2 Z _ _ h0 n0 _ T7.heap _
  rw [e7]
  exact ⟨lb2, _, rfl, N7, K0, F_value_a1, F_coder_a1, V_lb2⟩
theorem pd_0 : parseMethodDescriptor "([CIILjava/lang/Void;)V" = some ⟨[(.array .char), .int, .int, (.object "java/lang/Void")], none⟩ := by decide +kernel
theorem d2_0 : decode jdk_42_method_3_code 0 = .ok (.aload_n 0, 1) := by decide +kernel
theorem d2_1 : decode jdk_42_method_3_code 1 = .ok (.aload_n 1, 1) := by decide +kernel
theorem d2_2 : decode jdk_42_method_3_code 2 = .ok (.iconst 0, 1) := by decide +kernel
theorem d2_3 : decode jdk_42_method_3_code 3 = .ok (.aload_n 1, 1) := by decide +kernel
theorem d2_4 : decode jdk_42_method_3_code 4 = .ok (.arraylength, 1) := by decide +kernel
theorem d2_5 : decode jdk_42_method_3_code 5 = .ok (.aconst_null, 1) := by decide +kernel
theorem d2_6 : decode jdk_42_method_3_code 6 = .ok (.invokespecial 27, 3) := by decide +kernel
theorem d2_9 : decode jdk_42_method_3_code 9 = .ok (.return_, 1) := by decide +kernel
theorem ef_strE1 (m : MethodId) (x0 : Addr) (x1 : Addr) : entryFrame m #[(.ref x0), (.ref x1)] 2 = mkF m 0 #[.val (.ref x0), .val (.ref x1)] [] := by first | (simp [entryFrame, mkF, argsToLocals, Value.category]; done) | rfl
def Q_strE1 (Z : State) (a1 : Addr) (a2 : Addr) (ka : ClassId) (h0 : Heap) (n0 : Nat) (v : Option Value) (h : Heap) (L : List Loc) : Prop := ∃ t : Addr, ∃ kt : ClassId, v = none ∧ Fr n0 L ∧ (Keep h0 h [a1]) ∧ (Fld Z h a1 "java/lang/String" "value" "[B" (.ref t)) ∧ (Fld Z h a1 "java/lang/String" "coder" "B" (.int 0)) ∧ (Arv Z h t kt .byte 0 [] (.int 0))
set_option maxRecDepth 65536 in
set_option maxHeartbeats 40000000 in
theorem strE1 (l : Launch) (Z : State) (a0 : Array Value) (hw : ∀ d ∈ tables_1, d.before a0 Z = true) (ws : List Jvm.Cond) (a1 : Addr) (a2 : Addr) (ka : ClassId) (h0 : Heap) (n0 : Nat) (Z0 : n0 ≤ h0.size) (g_a1 : n0 ≤ a1) (E_a1 : Exa Z h0 a1 "java/lang/String") (F_value_a1 : Fld Z h0 a1 "java/lang/String" "value" "[B" .null) (F_coder_a1 : Fld Z h0 a1 "java/lang/String" "coder" "B" (.int (0 : Int32))) (V_a2 : Arv Z h0 a2 ka .char (0 : Int32) [] (.int (0 : Int32))) :
    MetFree l (⟨"java/lang/String", "<init>", "([C)V"⟩ : MethodName) (head1 (Jvm.Cond.code (⟨"java/lang/String", "<init>", "([C)V"⟩ : MethodName) jdk_42_method_3_code 2 none :: ws) ({ frames := 2, cells := 4, slots := 8, locals := 29 } : Room)) (fun a U => a = #[(.ref a1), (.ref a2)] ∧ Z.Warmed39 U.vm ∧ U.heap = h0 ∧ CHv Z EL1 U.vm h0) (fun _ _ _ _ _ => True) (fun _ U o U' => ∃ v L, o = .returned v ∧ Q_strE1 Z a1 a2 ka h0 n0 v U'.heap L ∧ CHr Z EL1 U.vm U.heap U'.vm U'.heap ∧ ReturnedEndW U o U' L ({ frames := 2, cells := 4, slots := 8, locals := 29 } : Room).cells ({ frames := 2, cells := 4, slots := 8, locals := 29 } : Room).slots) := by
  refine MetFree.of_bodySF (plainFor_of_name pn_java_lang_String) hisR ?_
  intro p e s m args below meth c s₁ Bd hml0 hP hK
  obtain ⟨rfl, hZ, hh, CH0⟩ := hP
  have hx := Bd.exec
  have hby := Bd.bytes
  have hml : c.maxLocals = 2 := hml0
  have hown : s.vm.findClass "java/lang/String" = some m.cls := findClass_of_methodNamed Bd.named
  have hnm := (name_of_methodNamed Bd.named Bd.method).1
  have hret : meth.sig.returnType = none := Bd.returns
  have hlk : meth.locks = false := BodyLoose.notSynchronized Bd
  have X0 : Stand p l e ({ frames := 2, cells := 4, slots := 8, locals := 29 } : Room) (s.setVm s.vm) m #[(.ref a1), (.ref a2)] below meth c s₁ [] 0 0 := Stand.of_body Bd
  have e0 : s₁.heap = h0 := by rw [← hh, Bd.state]; rfl
  have N0 := Fr.nil n0
  have hZ : Z.Warmed39 (s.setVm s.vm).vm := hZ
  have hown : (s.setVm s.vm).vm.findClass "java/lang/String" = some m.cls := hown
  have hsh : s.heap = h0 := hh
  have hS0 : s.Since s.vm 0 := State.WarmedH.since (State.WarmedH.refl s) 0
  have hk0 : 0 ≤ h0.size := Nat.zero_le _
  have hEL : EW Z a0 EL1 := ew_all hw
  have CR : CHr Z EL1 s.vm h0 s.vm h0 := CHr.refl CH0
  have K0 : Keep h0 h0 [a1] := Keep.refl h0 _
  show GlW p.tables e below s EL1 Z (Q_strE1 Z a1 a2 ka h0 n0) 4 8 _
  refine GlW.pre (B := s₁.setTop (mkF m 0 #[.val (.ref a1), .val (.ref a2)] [])) (fun _ k => castTop (ef_strE1 m a1 a2) k) ?_
  have Sf_a1 : Safe Z EL1 s.vm h0 a1 := own_safe_null hZ.alike E_a1 F_value_a1
  refine GlW.pre (B := s₁.setTop (mkF m 1 #[.val (.ref a1), .val (.ref a2)] [(.ref a1)])) (fun _ k => XS.aloadN X0.here hx rfl (hb hby d2_0) rfl rfl k) ?_
  refine GlW.pre (B := s₁.setTop (mkF m 2 #[.val (.ref a1), .val (.ref a2)] [(.ref a2), (.ref a1)])) (fun _ k => XS.aloadN X0.here hx rfl (hb hby d2_1) rfl rfl k) ?_
  refine GlW.pre (B := s₁.setTop (mkF m 3 #[.val (.ref a1), .val (.ref a2)] [(.int (0 : Int32)), (.ref a2), (.ref a1)])) (fun _ k => XS.iconst X0.here hx rfl (hb hby d2_2) k) ?_
  refine GlW.pre (B := s₁.setTop (mkF m 4 #[.val (.ref a1), .val (.ref a2)] [(.ref a2), (.int (0 : Int32)), (.ref a2), (.ref a1)])) (fun _ k => XS.aloadN X0.here hx rfl (hb hby d2_3) rfl rfl k) ?_
  obtain ⟨cl1, Ar1, -, S1, Nn1, -, -⟩ := id V_a2
  refine GlW.pre (B := s₁.setTop (mkF m 5 #[.val (.ref a1), .val (.ref a2)] [(.int (0 : Int32)), (.int (0 : Int32)), (.ref a2), (.ref a1)])) (fun _ k => ?_) ?_
  · refine X0.arraylength hx (by rw [e0]; exact Ar1.1) (State.isArrayOf_alike hZ.alike Ar1.2.1) (g := (mkF m 4 #[.val (.ref a1), .val (.ref a2)] [(.ref a2), (.int (0 : Int32)), (.ref a2), (.ref a1)])) rfl rfl (hb hby d2_4) _ ?_
    rw [len_of S1 Nn1]
    exact k
  refine GlW.pre (B := s₁.setTop (mkF m 6 #[.val (.ref a1), .val (.ref a2)] [.null, (.int (0 : Int32)), (.int (0 : Int32)), (.ref a2), (.ref a1)])) (fun _ k => XS.aconstNull X0.here hx rfl (hb hby d2_5) k) ?_
  obtain ⟨rv2, _, ⟨T2, L2, k2, n2⟩, -, X2, Sg2, Gg2, ⟨Lc2, hQ2, l2, y2, z2, C2⟩, st2⟩ := X0.specialBackS hx (y := (⟨"java/lang/String", "<init>", "([CIILjava/lang/Void;)V"⟩ : MethodName)) rfl hown (mvT hZ (hw _ (List.mem_of_getElem? (i := 11) rfl))) (mvT hZ (hw _ (List.mem_of_getElem? (i := 12) rfl))) (mvT hZ (hw _ (List.mem_of_getElem? (i := 14) rfl))) (by decide) (backOfSH (W := 0) (strE2 l Z a0 hw [] a1 a2 h0 n0 Z0 g_a1 E_a1 F_value_a1 F_coder_a1) hZ (hw _ (List.mem_of_getElem? (i := 14) rfl)) (hw _ (List.mem_of_getElem? (i := 6) rfl)) (by decide) (by decide) hEL CR.1) (g := (mkF m 6 #[.val (.ref a1), .val (.ref a2)] [.null, (.int (0 : Int32)), (.int (0 : Int32)), (.ref a2), (.ref a1)])) rfl (by rw [hml]; rfl) (Steps.refl _) (a := a1) (argsL := [(.ref a2), (.int (0 : Int32)), (.int (0 : Int32)), .null]) (rest := []) (lenOf pd_0 rfl) rfl (by show 2 * 0 + _ ≤ _; exact Nat.le_of_eq rfl) (hb hby d2_6) (fun _ _ => ⟨rfl, e0, (by decide : 0 + 4 ≤ _), (by decide : 0 + 8 ≤ _)⟩)
  dsimp only [Pt.U, Pt.locs, Pt.cells, Pt.slots] at X2 Sg2 Gg2 l2 y2 z2 C2 st2 hQ2
  subst l2 y2 z2
  obtain ⟨X2, hS2, hZ2, ho2⟩ := rebS hS0 (show _ ≤ s₁.heap.size from e0 ▸ hk0) X2 Sg2 Gg2 hZ hown
  have hk2 := Nat.le_refl T2.heap.size
  obtain ⟨t_2, kt_2, rfl, N2q, K2, F_value_a1_2, F_coder_a1_2, V_t_2⟩ := hQ2
  have N2 := Fr.app N0 N2q
  have CR_q := CR.trans C2
  have Sf_a1_q := C2.safe E_a1.lt Sf_a1
  have Z0 := Nat.le_trans Z0 K2.1
  have E_a1 := E_a1.keep K2
  have K0 := K0.trans K2 (allS (Or.inl (List.mem_of_getElem? (i := 0) rfl)) all0)
  have CR := CR_q
  have Sf_a1 := Sf_a1_q
  refine GlW.pre (B := T2.setTop (mkF m 9 #[.val (.ref a1), .val (.ref a2)] [])) (fun _ k => st2.trans k) ?_
  refine GlW.out X2 hsh rfl hS2 hk2 hZ2 hEL CR (v := none) (fun _ => rfl) hlk (fun fs hr => X2.returnOut hx hret (hb hby d2_9) hr) ?_ (by decide) (by decide)
  show Q_strE1 Z _ _ _ h0 n0 _ T2.heap _
  exact ⟨_, _, rfl, N2, K0, F_value_a1_2, F_coder_a1_2, V_t_2⟩
theorem pd_1 : parseMethodDescriptor "([C)V" = some ⟨[(.array .char)], none⟩ := by decide +kernel
theorem d1_0 : decode method_3_code 0 = .ok (.iload_n 0, 1) := by decide +kernel
theorem d1_1 : decode method_3_code 1 = .ok (.iconst 3, 1) := by decide +kernel
theorem d1_2 : decode method_3_code 2 = .ok (.if_icmp .ne 5, 3) := by decide +kernel
theorem d1_5 : decode method_3_code 5 = .ok (.aconst_null, 1) := by decide +kernel
theorem d1_6 : decode method_3_code 6 = .ok (.areturn, 1) := by decide +kernel
theorem d1_7 : decode method_3_code 7 = .ok (.iload_n 0, 1) := by decide +kernel
theorem d1_8 : decode method_3_code 8 = .ok (.ifCond .ne 14, 3) := by decide +kernel
theorem d1_11 : decode method_3_code 11 = .ok (.new 26, 3) := by decide +kernel
theorem d1_14 : decode method_3_code 14 = .ok (.dup, 1) := by decide +kernel
theorem d1_15 : decode method_3_code 15 = .ok (.iconst 0, 1) := by decide +kernel
theorem d1_16 : decode method_3_code 16 = .ok (.newarray .char, 2) := by decide +kernel
theorem d1_18 : decode method_3_code 18 = .ok (.invokespecial 28, 3) := by decide +kernel
theorem d1_21 : decode method_3_code 21 = .ok (.areturn, 1) := by decide +kernel
theorem d1_22 : decode method_3_code 22 = .ok (.iload_n 0, 1) := by decide +kernel
theorem d1_23 : decode method_3_code 23 = .ok (.iconst 1, 1) := by decide +kernel
theorem d1_24 : decode method_3_code 24 = .ok (.if_icmp .ne 20, 3) := by decide +kernel
theorem d1_27 : decode method_3_code 27 = .ok (.iconst 1, 1) := by decide +kernel
theorem d1_28 : decode method_3_code 28 = .ok (.newarray .char, 2) := by decide +kernel
theorem d1_30 : decode method_3_code 30 = .ok (.astore_n 3, 1) := by decide +kernel
theorem d1_31 : decode method_3_code 31 = .ok (.aload_n 3, 1) := by decide +kernel
theorem d1_32 : decode method_3_code 32 = .ok (.iconst 0, 1) := by decide +kernel
theorem d1_33 : decode method_3_code 33 = .ok (.iload_n 1, 1) := by decide +kernel
theorem d1_34 : decode method_3_code 34 = .ok (.castore, 1) := by decide +kernel
theorem d1_35 : decode method_3_code 35 = .ok (.new 26, 3) := by decide +kernel
theorem d1_38 : decode method_3_code 38 = .ok (.dup, 1) := by decide +kernel
theorem d1_39 : decode method_3_code 39 = .ok (.aload_n 3, 1) := by decide +kernel
theorem d1_40 : decode method_3_code 40 = .ok (.invokespecial 28, 3) := by decide +kernel
theorem d1_43 : decode method_3_code 43 = .ok (.areturn, 1) := by decide +kernel
theorem d1_44 : decode method_3_code 44 = .ok (.iconst 2, 1) := by decide +kernel
theorem d1_45 : decode method_3_code 45 = .ok (.newarray .char, 2) := by decide +kernel
theorem d1_47 : decode method_3_code 47 = .ok (.astore_n 3, 1) := by decide +kernel
theorem d1_48 : decode method_3_code 48 = .ok (.aload_n 3, 1) := by decide +kernel
theorem d1_49 : decode method_3_code 49 = .ok (.iconst 0, 1) := by decide +kernel
theorem d1_50 : decode method_3_code 50 = .ok (.iload_n 1, 1) := by decide +kernel
theorem d1_51 : decode method_3_code 51 = .ok (.castore, 1) := by decide +kernel
theorem d1_52 : decode method_3_code 52 = .ok (.aload_n 3, 1) := by decide +kernel
theorem d1_53 : decode method_3_code 53 = .ok (.iconst 1, 1) := by decide +kernel
theorem d1_54 : decode method_3_code 54 = .ok (.iload_n 2, 1) := by decide +kernel
theorem d1_55 : decode method_3_code 55 = .ok (.castore, 1) := by decide +kernel
theorem d1_56 : decode method_3_code 56 = .ok (.new 26, 3) := by decide +kernel
theorem d1_59 : decode method_3_code 59 = .ok (.dup, 1) := by decide +kernel
theorem d1_60 : decode method_3_code 60 = .ok (.aload_n 3, 1) := by decide +kernel
theorem d1_61 : decode method_3_code 61 = .ok (.invokespecial 28, 3) := by decide +kernel
theorem d1_64 : decode method_3_code 64 = .ok (.areturn, 1) := by decide +kernel
theorem pn_com_example_tranquility_tranquility_NameTestMatchesPinLaw : plainName "com/example/tranquility/tranquility/NameTestMatchesPinLaw" = true := by first | (simp [plainName, overriddenIn]; done) | decide +kernel
theorem ef_mk (m : MethodId) (x0 : Int32) (x1 : Int32) (x2 : Int32) : entryFrame m #[(.int x0), (.int x1), (.int x2)] 4 = mkF m 0 #[.val (.int x0), .val (.int x1), .val (.int x2), .unset] [] := by first | (simp [entryFrame, mkF, argsToLocals, Value.category]; done) | rfl
def Q_mk (Z : State) (p1 : Int32) (p2 : Int32) (p3 : Int32) (G1 : Int32) (h0 : Heap) (n0 : Nat) (v : Option Value) (h : Heap) (L : List Loc) : Prop := ∃ vr : Value, v = some vr ∧ Fr n0 L ∧ (Keep h0 h []) ∧ (SO Z h vr (mkO p1 p2 p3))
set_option maxRecDepth 65536 in
set_option maxHeartbeats 40000000 in
theorem mk (l : Launch) (Z : State) (a0 : Array Value) (hw : ∀ d ∈ tables_1, d.before a0 Z = true) (ws : List Jvm.Cond) (p1 : Int32) (p2 : Int32) (p3 : Int32) (G1 : Int32) (h0 : Heap) (n0 : Nat) (Z0 : n0 ≤ h0.size) (hp2 : ¬ p2 < 0 ∧ ¬ (255 : Int32) < p2) (hp3 : ¬ p3 < 0 ∧ ¬ (255 : Int32) < p3) (O2 : Sta Z Z.heap "java/lang/String" "COMPACT_STRINGS" "Z" (.int G1)) (P5 : ¬ (G1 = (0 : Int32))) (Od : Old Z n0 h0) :
    MetFree l (⟨"com/example/tranquility/tranquility/NameTestMatchesPinLaw", "make", "(ICC)Ljava/lang/String;"⟩ : MethodName) (head1 (Jvm.Cond.code (⟨"com/example/tranquility/tranquility/NameTestMatchesPinLaw", "make", "(ICC)Ljava/lang/String;"⟩ : MethodName) method_3_code 4 (some (.object "java/lang/String")) :: ws) ({ frames := 4, cells := 6, slots := 12, locals := 66 } : Room)) (fun a U => a = #[(.int p1), (.int p2), (.int p3)] ∧ Z.Warmed39 U.vm ∧ U.heap = h0 ∧ CHv Z EL1 U.vm h0) (fun _ _ _ _ _ => True) (fun _ U o U' => ∃ v L, o = .returned v ∧ Q_mk Z p1 p2 p3 G1 h0 n0 v U'.heap L ∧ CHr Z EL1 U.vm U.heap U'.vm U'.heap ∧ ReturnedEndW U o U' L ({ frames := 4, cells := 6, slots := 12, locals := 66 } : Room).cells ({ frames := 4, cells := 6, slots := 12, locals := 66 } : Room).slots) := by
  refine MetFree.of_bodySF (plainFor_of_name pn_com_example_tranquility_tranquility_NameTestMatchesPinLaw) hisR ?_
  intro p e s m args below meth c s₁ Bd hml0 hP hK
  obtain ⟨rfl, hZ, hh, CH0⟩ := hP
  have hx := Bd.exec
  have hby := Bd.bytes
  have hml : c.maxLocals = 4 := hml0
  have hown : s.vm.findClass "com/example/tranquility/tranquility/NameTestMatchesPinLaw" = some m.cls := findClass_of_methodNamed Bd.named
  have hnm := (name_of_methodNamed Bd.named Bd.method).1
  have hret : meth.sig.returnType = (some (.object "java/lang/String")) := Bd.returns
  have hlk : meth.locks = false := BodyLoose.notSynchronized Bd
  have X0 : Stand p l e ({ frames := 4, cells := 6, slots := 12, locals := 66 } : Room) (s.setVm s.vm) m #[(.int p1), (.int p2), (.int p3)] below meth c s₁ [] 0 0 := Stand.of_body Bd
  have e0 : s₁.heap = h0 := by rw [← hh, Bd.state]; rfl
  have N0 := Fr.nil n0
  have hZ : Z.Warmed39 (s.setVm s.vm).vm := hZ
  have hown : (s.setVm s.vm).vm.findClass "com/example/tranquility/tranquility/NameTestMatchesPinLaw" = some m.cls := hown
  have hsh : s.heap = h0 := hh
  have hS0 : s.Since s.vm 0 := State.WarmedH.since (State.WarmedH.refl s) 0
  have hk0 : 0 ≤ h0.size := Nat.zero_le _
  have hEL : EW Z a0 EL1 := ew_all hw
  have CR : CHr Z EL1 s.vm h0 s.vm h0 := CHr.refl CH0
  have K0 : Keep h0 h0 [] := Keep.refl h0 _
  show GlW p.tables e below s EL1 Z (Q_mk Z p1 p2 p3 G1 h0 n0) 6 12 _
  refine GlW.pre (B := s₁.setTop (mkF m 0 #[.val (.int p1), .val (.int p2), .val (.int p3), .unset] [])) (fun _ k => castTop (ef_mk m p1 p2 p3) k) ?_
  refine GlW.pre (B := s₁.setTop (mkF m 1 #[.val (.int p1), .val (.int p2), .val (.int p3), .unset] [(.int p1)])) (fun _ k => XS.iloadN X0.here hx rfl (hb hby d1_0) rfl k) ?_
  refine GlW.pre (B := s₁.setTop (mkF m 2 #[.val (.int p1), .val (.int p2), .val (.int p3), .unset] [(.int (3 : Int32)), (.int p1)])) (fun _ k => XS.iconst X0.here hx rfl (hb hby d1_1) k) ?_
  by_cases hc2_1 : p1 = (3 : Int32)
  · refine GlW.pre (B := s₁.setTop (mkF m 5 #[.val (.int p1), .val (.int p2), .val (.int p3), .unset] [])) (fun _ k => XS.icmpNo X0.here hx rfl (hb hby d1_2) rfl (teq hc2_1).2 k) ?_
    refine GlW.pre (B := s₁.setTop (mkF m 6 #[.val (.int p1), .val (.int p2), .val (.int p3), .unset] [.null])) (fun _ k => XS.aconstNull X0.here hx rfl (hb hby d1_5) k) ?_
    refine GlW.out X0 hsh e0 hS0 hk0 hZ hEL CR (v := some .null) (fun h => by rw [hret] at h; cases h) hlk (fun fs hr => retOut X0 hx hret rfl (Or.inr (Or.inr (Or.inr (Or.inr ⟨rfl, rfl, rfl⟩)))) (hb hby d1_6) hr) ?_ (by decide) (by decide)
    show Q_mk Z _ _ _ _ h0 n0 _ s₁.heap _
    rw [e0]
    exact ⟨.null, rfl, N0, K0, Or.inl ⟨rfl, by simp [mkO, hc2_1]⟩⟩
  · refine GlW.pre (B := s₁.setTop (mkF m 7 #[.val (.int p1), .val (.int p2), .val (.int p3), .unset] [])) (fun _ k => XS.icmpYes X0.here hx rfl (pc0 := 2) (pc' := 7) rfl (hb hby d1_2) rfl (feq hc2_1).2 (by decide) (by decide) k) ?_
    refine GlW.pre (B := s₁.setTop (mkF m 8 #[.val (.int p1), .val (.int p2), .val (.int p3), .unset] [(.int p1)])) (fun _ k => XS.iloadN X0.here hx rfl (hb hby d1_7) rfl k) ?_
    by_cases hc8_2 : p1 = (0 : Int32)
    · refine GlW.pre (B := s₁.setTop (mkF m 11 #[.val (.int p1), .val (.int p2), .val (.int p3), .unset] [])) (fun _ k => XS.ifNo X0.here hx rfl (hb hby d1_8) rfl ((if0 _ _).trans (teq hc8_2).2) k) ?_
      obtain ⟨T3, h3, X3, e3, E3, A3, D3, -, st3⟩ := newO X0 hx hZ hown (hw _ (List.mem_of_getElem? (i := 4) rfl)) (hw _ (List.mem_of_getElem? (i := 5) rfl)) (hw _ (List.mem_of_getElem? (i := 6) rfl)) e0 (g := (mkF m 11 #[.val (.int p1), .val (.int p2), .val (.int p3), .unset] [])) rfl (hb hby d1_11) (by decide) (by decide)
      obtain ⟨b3, g3⟩ : ∃ z, z = h0.size := ⟨_, rfl⟩
      rw [← g3] at A3 D3 st3
      have g_b3 : n0 ≤ b3 := Nat.le_trans Z0 (Nat.le_of_eq g3.symm)
      have sz_b3 : h0.size ≤ b3 := Nat.le_trans K0.1 (Nat.le_of_eq g3.symm)
      have Sf_b3 : Safe Z EL1 s.vm h0 b3 := Safe.new (Nat.le_of_eq g3.symm)
      have CR_q := CR.trans (CHr.ext E3 CR.1)
      have Sf_b3_q := Safe.ext E3 CR.1 Sf_b3
      have Z0 := Nat.le_trans Z0 E3.1
      have Od := Od.ext E3
      have K0 := K0.ext E3
      have CR := CR_q
      have Sf_b3 := Sf_b3_q
      have hk3 := Nat.le_trans hk0 E3.1
      have E_b3 := A3
      have F_value_b3 : Fld Z h3 b3 "java/lang/String" "value" "[B" .null := D3 (Or.inr (hw _ (List.mem_of_getElem? (i := 20) rfl))) (ty := (.array .byte)) (by decide)
      have F_coder_b3 : Fld Z h3 b3 "java/lang/String" "coder" "B" (.int (0 : Int32)) := D3 (Or.inr (hw _ (List.mem_of_getElem? (i := 21) rfl))) (ty := .byte) (by decide)
      refine GlW.pre (B := T3.setTop (mkF m 14 #[.val (.int p1), .val (.int p2), .val (.int p3), .unset] [(.ref b3)])) (fun _ k => st3 _ k) ?_
      refine GlW.pre (B := T3.setTop (mkF m 15 #[.val (.int p1), .val (.int p2), .val (.int p3), .unset] [(.ref b3), (.ref b3)])) (fun _ k => XS.dup X3.here hx rfl (hb hby d1_14) rfl rfl k) ?_
      refine GlW.pre (B := T3.setTop (mkF m 16 #[.val (.int p1), .val (.int p2), .val (.int p3), .unset] [(.int (0 : Int32)), (.ref b3), (.ref b3)])) (fun _ k => XS.iconst X3.here hx rfl (hb hby d1_15) k) ?_
      obtain ⟨T4, h4, k4, X4, e4, E4, A4, st4⟩ := newP X3 hx hZ (hw _ (List.mem_of_getElem? (i := 7) rfl)) e3 (g := (mkF m 16 #[.val (.int p1), .val (.int p2), .val (.int p3), .unset] [(.int (0 : Int32)), (.ref b3), (.ref b3)])) rfl (hb hby d1_16) rfl (by decide) (cap := 0) (by decide) (by decide) (by decide) (by decide)
      obtain ⟨b4, g4⟩ : ∃ z, z = h3.size := ⟨_, rfl⟩
      rw [← g4] at A4 st4
      have ne_b3_b4 : b3 ≠ b4 := Nat.ne_of_lt (Nat.lt_of_lt_of_le E_b3.lt (Nat.le_of_eq g4.symm))
      have g_b4 : n0 ≤ b4 := Nat.le_trans Z0 (Nat.le_of_eq g4.symm)
      have sz_b4 : h0.size ≤ b4 := Nat.le_trans K0.1 (Nat.le_of_eq g4.symm)
      have CR_q := CR.trans (CHr.ext E4 CR.1)
      have Sf_b3_q := Safe.ext E4 CR.1 Sf_b3
      have Z0 := Nat.le_trans Z0 E4.1
      have Od := Od.ext E4
      have K0 := K0.ext E4
      have E_b3 := E_b3.ext E4
      have F_value_b3 := F_value_b3.ext E4
      have F_coder_b3 := F_coder_b3.ext E4
      have CR := CR_q
      have Sf_b3 := Sf_b3_q
      have hk4 := Nat.le_trans hk3 E4.1
      have V_b4 : Arv Z h4 b4 k4 .char (0 : Int32) [] (.int (0 : Int32)) := Arv.new A4 (by decide)
      refine GlW.pre (B := T4.setTop (mkF m 18 #[.val (.int p1), .val (.int p2), .val (.int p3), .unset] [(.ref b4), (.ref b3), (.ref b3)])) (fun _ k => st4 _ k) ?_
      obtain ⟨rv5, _, ⟨T5, L5, k5, n5⟩, -, X5, Sg5, Gg5, ⟨Lc5, hQ5, l5, y5, z5, C5⟩, st5⟩ := X4.specialBackS hx (y := (⟨"java/lang/String", "<init>", "([C)V"⟩ : MethodName)) rfl hown (mvT hZ (hw _ (List.mem_of_getElem? (i := 8) rfl))) (mvT hZ (hw _ (List.mem_of_getElem? (i := 9) rfl))) (mvT hZ (hw _ (List.mem_of_getElem? (i := 10) rfl))) (by decide) (backOfSH (W := 1) (strE1 l Z a0 hw [] b3 b4 k4 h4 n0 Z0 g_b3 E_b3 F_value_b3 F_coder_b3 V_b4) hZ (hw _ (List.mem_of_getElem? (i := 10) rfl)) (hw _ (List.mem_of_getElem? (i := 6) rfl)) (by decide) (by decide) hEL CR.1) (g := (mkF m 18 #[.val (.int p1), .val (.int p2), .val (.int p3), .unset] [(.ref b4), (.ref b3), (.ref b3)])) rfl (by rw [hml]; rfl) (Steps.refl _) (a := b3) (argsL := [(.ref b4)]) (rest := [(.ref b3)]) (lenOf pd_1 rfl) rfl (by show 2 * 0 + _ ≤ _; exact Nat.le_of_eq rfl) (hb hby d1_18) (fun _ _ => ⟨rfl, e4, (by decide : 2 + 4 ≤ _), (by decide : 4 + 8 ≤ _)⟩)
      dsimp only [Pt.U, Pt.locs, Pt.cells, Pt.slots] at X5 Sg5 Gg5 l5 y5 z5 C5 st5 hQ5
      subst l5 y5 z5
      obtain ⟨X5, hS5, hZ5, ho5⟩ := rebS hS0 (show _ ≤ T4.heap.size from e4 ▸ hk4) X5 Sg5 Gg5 hZ hown
      have hk5 := Nat.le_refl T5.heap.size
      obtain ⟨t_5, kt_5, rfl, N5q, K5, F_value_a1_5, F_coder_a1_5, V_t_5⟩ := hQ5
      have N5 := Fr.app N0 N5q
      have CR_q := CR.trans C5
      have Sf_b3_q := C5.safe E_b3.lt Sf_b3
      have Z0 := Nat.le_trans Z0 K5.1
      have Od := Od.keep K5 (allS g_b3 all0)
      have K0 := K0.trans K5 (allS (Or.inr sz_b3) all0)
      have E_b3 := E_b3.keep K5
      have V_b4 := V_b4.keep K5 (ninS (Ne.symm ne_b3_b4) nin0)
      have CR := CR_q
      have Sf_b3 := Sf_b3_q
      refine GlW.pre (B := T5.setTop (mkF m 21 #[.val (.int p1), .val (.int p2), .val (.int p3), .unset] [(.ref b3)])) (fun _ k => st5.trans k) ?_
      refine GlW.out X5 hsh rfl hS5 hk5 hZ5 hEL CR (v := some (.ref b3)) (fun h => by rw [hret] at h; cases h) hlk (fun fs hr => retOut X5 hx hret rfl (Or.inr (Or.inr (Or.inr (Or.inr ⟨rfl, rfl, rfl⟩)))) (hb hby d1_21) hr) ?_ (by decide) (by decide)
      show Q_mk Z _ _ _ _ h0 n0 _ T5.heap _
      exact ⟨.ref b3, rfl, N5, K0, Or.inr ⟨b3, t_5, _, [], rfl, by simp [mkO, hc2_1, hc8_2], E_b3, F_value_a1_5, F_coder_a1_5, V_t_5, al0, by decide⟩⟩
    · refine GlW.pre (B := s₁.setTop (mkF m 22 #[.val (.int p1), .val (.int p2), .val (.int p3), .unset] [])) (fun _ k => XS.ifYes X0.here hx rfl (pc0 := 8) (pc' := 22) rfl (hb hby d1_8) rfl ((if0 _ _).trans (feq hc8_2).2) (by decide) (by decide) k) ?_
      refine GlW.pre (B := s₁.setTop (mkF m 23 #[.val (.int p1), .val (.int p2), .val (.int p3), .unset] [(.int p1)])) (fun _ k => XS.iloadN X0.here hx rfl (hb hby d1_22) rfl k) ?_
      refine GlW.pre (B := s₁.setTop (mkF m 24 #[.val (.int p1), .val (.int p2), .val (.int p3), .unset] [(.int (1 : Int32)), (.int p1)])) (fun _ k => XS.iconst X0.here hx rfl (hb hby d1_23) k) ?_
      by_cases hc24_6 : p1 = (1 : Int32)
      · refine GlW.pre (B := s₁.setTop (mkF m 27 #[.val (.int p1), .val (.int p2), .val (.int p3), .unset] [])) (fun _ k => XS.icmpNo X0.here hx rfl (hb hby d1_24) rfl (teq hc24_6).2 k) ?_
        refine GlW.pre (B := s₁.setTop (mkF m 28 #[.val (.int p1), .val (.int p2), .val (.int p3), .unset] [(.int (1 : Int32))])) (fun _ k => XS.iconst X0.here hx rfl (hb hby d1_27) k) ?_
        obtain ⟨T7, h7, k7, X7, e7, E7, A7, st7⟩ := newP X0 hx hZ (hw _ (List.mem_of_getElem? (i := 7) rfl)) e0 (g := (mkF m 28 #[.val (.int p1), .val (.int p2), .val (.int p3), .unset] [(.int (1 : Int32))])) rfl (hb hby d1_28) rfl (by decide) (cap := 1) (by decide) (by decide) (by decide) (by decide)
        obtain ⟨b7, g7⟩ : ∃ z, z = h0.size := ⟨_, rfl⟩
        rw [← g7] at A7 st7
        have g_b7 : n0 ≤ b7 := Nat.le_trans Z0 (Nat.le_of_eq g7.symm)
        have sz_b7 : h0.size ≤ b7 := Nat.le_trans K0.1 (Nat.le_of_eq g7.symm)
        have CR_q := CR.trans (CHr.ext E7 CR.1)
        have Z0 := Nat.le_trans Z0 E7.1
        have Od := Od.ext E7
        have K0 := K0.ext E7
        have CR := CR_q
        have hk7 := Nat.le_trans hk0 E7.1
        have V_b7 : Arv Z h7 b7 k7 .char (1 : Int32) [(.int (0 : Int32))] (.int (0 : Int32)) := (Arv.new A7 (by decide)).pad (pad_rep [] (.int (0 : Int32)) 1)
        refine GlW.pre (B := T7.setTop (mkF m 30 #[.val (.int p1), .val (.int p2), .val (.int p3), .unset] [(.ref b7)])) (fun _ k => st7 _ k) ?_
        refine GlW.pre (B := T7.setTop (mkF m 31 #[.val (.int p1), .val (.int p2), .val (.int p3), .val (.ref b7)] [])) (fun _ k => XS.astoreN X7.here hx rfl (hb hby d1_30) rfl rfl (l' := #[.val (.int p1), .val (.int p2), .val (.int p3), .val (.ref b7)]) rfl k) ?_
        refine GlW.pre (B := T7.setTop (mkF m 32 #[.val (.int p1), .val (.int p2), .val (.int p3), .val (.ref b7)] [(.ref b7)])) (fun _ k => XS.aloadN X7.here hx rfl (hb hby d1_31) rfl rfl k) ?_
        refine GlW.pre (B := T7.setTop (mkF m 33 #[.val (.int p1), .val (.int p2), .val (.int p3), .val (.ref b7)] [(.int (0 : Int32)), (.ref b7)])) (fun _ k => XS.iconst X7.here hx rfl (hb hby d1_32) k) ?_
        refine GlW.pre (B := T7.setTop (mkF m 34 #[.val (.int p1), .val (.int p2), .val (.int p3), .val (.ref b7)] [(.int p2), (.int (0 : Int32)), (.ref b7)])) (fun _ k => XS.iloadN X7.here hx rfl (hb hby d1_33) rfl k) ?_
        obtain ⟨cl8, Ar8, q8, S8, Nn8, H8, G8⟩ := id V_b7
        obtain ⟨T8, h8, X8, e8, W8, st8⟩ := stC X7 hx hZ e7 Ar8 (j := (0 : Int32)) (inb_of S8 ⟨by decide, by decide⟩) (g := (mkF m 34 #[.val (.int p1), .val (.int p2), .val (.int p3), .val (.ref b7)] [(.int p2), (.int (0 : Int32)), (.ref b7)])) rfl rfl (hb hby d1_34)
        have V_b7_n := Arv.set Ar8 q8 S8 Nn8 H8 G8 (fits_nar_char _) W8 0 rfl (Nat.le_of_ble_eq_true rfl)
        have N8 := Fr.snoc X8 N0 g_b7
        have CR_q := CR.trans (CHr.wr W8 (Safe.arv hZ.alike V_b7 (by decide)) CR.1)
        have Z0 := Nat.le_trans Z0 (Keep.of_wr W8).1
        have Od := Od.wr W8 g_b7
        have K0 := K0.wr W8 (Or.inr sz_b7)
        have CR := CR_q
        have hk8 := Nat.le_trans hk7 (Keep.of_wr W8).1
        have V_b7 : Arv Z h8 b7 k7 .char (1 : Int32) [(.int (nar .char p2))] (.int (0 : Int32)) := V_b7_n
        refine GlW.pre (B := T8.setTop (mkF m 35 #[.val (.int p1), .val (.int p2), .val (.int p3), .val (.ref b7)] [])) (fun _ k => st8 _ k) ?_
        obtain ⟨T9, h9, X9, e9, E9, A9, D9, -, st9⟩ := newO X8 hx hZ hown (hw _ (List.mem_of_getElem? (i := 4) rfl)) (hw _ (List.mem_of_getElem? (i := 5) rfl)) (hw _ (List.mem_of_getElem? (i := 6) rfl)) e8 (g := (mkF m 35 #[.val (.int p1), .val (.int p2), .val (.int p3), .val (.ref b7)] [])) rfl (hb hby d1_35) (by decide) (by decide)
        obtain ⟨b9, g9⟩ : ∃ z, z = h8.size := ⟨_, rfl⟩
        rw [← g9] at A9 D9 st9
        have ne_b7_b9 : b7 ≠ b9 := Nat.ne_of_lt (Nat.lt_of_lt_of_le V_b7.lt (Nat.le_of_eq g9.symm))
        have g_b9 : n0 ≤ b9 := Nat.le_trans Z0 (Nat.le_of_eq g9.symm)
        have sz_b9 : h0.size ≤ b9 := Nat.le_trans K0.1 (Nat.le_of_eq g9.symm)
        have Sf_b9 : Safe Z EL1 s.vm h8 b9 := Safe.new (Nat.le_of_eq g9.symm)
        have CR_q := CR.trans (CHr.ext E9 CR.1)
        have Sf_b9_q := Safe.ext E9 CR.1 Sf_b9
        have Z0 := Nat.le_trans Z0 E9.1
        have Od := Od.ext E9
        have K0 := K0.ext E9
        have V_b7 := V_b7.ext E9
        have CR := CR_q
        have Sf_b9 := Sf_b9_q
        have hk9 := Nat.le_trans hk8 E9.1
        have E_b9 := A9
        have F_value_b9 : Fld Z h9 b9 "java/lang/String" "value" "[B" .null := D9 (Or.inr (hw _ (List.mem_of_getElem? (i := 20) rfl))) (ty := (.array .byte)) (by decide)
        have F_coder_b9 : Fld Z h9 b9 "java/lang/String" "coder" "B" (.int (0 : Int32)) := D9 (Or.inr (hw _ (List.mem_of_getElem? (i := 21) rfl))) (ty := .byte) (by decide)
        refine GlW.pre (B := T9.setTop (mkF m 38 #[.val (.int p1), .val (.int p2), .val (.int p3), .val (.ref b7)] [(.ref b9)])) (fun _ k => st9 _ k) ?_
        refine GlW.pre (B := T9.setTop (mkF m 39 #[.val (.int p1), .val (.int p2), .val (.int p3), .val (.ref b7)] [(.ref b9), (.ref b9)])) (fun _ k => XS.dup X9.here hx rfl (hb hby d1_38) rfl rfl k) ?_
        refine GlW.pre (B := T9.setTop (mkF m 40 #[.val (.int p1), .val (.int p2), .val (.int p3), .val (.ref b7)] [(.ref b7), (.ref b9), (.ref b9)])) (fun _ k => XS.aloadN X9.here hx rfl (hb hby d1_39) rfl rfl k) ?_
        obtain ⟨rv10, _, ⟨T10, L10, k10, n10⟩, -, X10, ⟨Lc10, hQ10, l10, y10, z10⟩, st10⟩ := X9.specialBack hx (y := (⟨"java/lang/String", "<init>", "([C)V"⟩ : MethodName)) rfl hown (mvT hZ (hw _ (List.mem_of_getElem? (i := 8) rfl))) (mvT hZ (hw _ (List.mem_of_getElem? (i := 9) rfl))) (mvT hZ (hw _ (List.mem_of_getElem? (i := 10) rfl))) (by decide) (StrChars.Road.backV (W := 1) hZ (str_words hw) (kI := 4) (hw _ (List.mem_of_getElem? (i := 5) rfl)) (cs := ([(nar .char p2)] : List Int32)) (bs := ([(nar .char p2)] : List Int32).map (fun c => c.toInt8.toInt32)) (n := 1) g_b9 Z0 E_b9 F_value_b9 F_coder_b9 V_b7 (O2.ext Od.2) P5 rfl rfl (by decide) (by decide) (alS ((own_nar hp2).symm ▸ hp2) al0) rfl (by decide) (by decide)) (g := (mkF m 40 #[.val (.int p1), .val (.int p2), .val (.int p3), .val (.ref b7)] [(.ref b7), (.ref b9), (.ref b9)])) rfl (by rw [hml]; rfl) (Steps.refl _) (a := b9) (argsL := [(.ref b7)]) (rest := [(.ref b9)]) (lenOf pd_1 rfl) rfl (by show 2 * 0 + _ ≤ _; exact Nat.le_of_eq rfl) (hb hby d1_40) (fun _ _ => ⟨rfl, e9, (by decide : 2 + 1 ≤ _), (by decide : 5 + 1 ≤ _)⟩)
        dsimp only [Pt.U, Pt.locs, Pt.cells, Pt.slots] at X10 l10 y10 z10 st10 hQ10
        subst l10 y10 z10
        obtain ⟨rfl, N10q, K10, -, F_coder_b9_10, t10, kb10, -, nz_t10, -, F_value_b9_10, V_t10⟩ := hQ10
        have N10 := Fr.app N8 N10q
        have ne_b7_t10 : b7 ≠ t10 := Nat.ne_of_lt (Nat.lt_of_lt_of_le V_b7.lt nz_t10)
        have ne_b9_t10 : b9 ≠ t10 := Nat.ne_of_lt (Nat.lt_of_lt_of_le E_b9.lt nz_t10)
        have g_t10 : n0 ≤ t10 := Nat.le_trans Z0 nz_t10
        have sz_t10 : h0.size ≤ t10 := Nat.le_trans K0.1 nz_t10
        have CR_q := CR.trans (CHr.keep K10 (sfS Sf_b9 sf0) CR.1)
        have Sf_b9_q := Safe.keep K10 (sfS Sf_b9 sf0) CR.1 Sf_b9
        have Z0 := Nat.le_trans Z0 K10.1
        have Od := Od.keep K10 (allS g_b9 all0)
        have K0 := K0.trans K10 (allS (Or.inr sz_b9) all0)
        have V_b7 := V_b7.keep K10 (ninS ne_b7_b9 nin0)
        have E_b9 := E_b9.keep K10
        have CR := CR_q
        have Sf_b9 := Sf_b9_q
        have hk10 := Nat.le_trans hk9 K10.1
        refine GlW.pre (B := T10.setTop (mkF m 43 #[.val (.int p1), .val (.int p2), .val (.int p3), .val (.ref b7)] [(.ref b9)])) (fun _ k => st10.trans k) ?_
        refine GlW.out X10 hsh rfl hS0 hk10 hZ hEL CR (v := some (.ref b9)) (fun h => by rw [hret] at h; cases h) hlk (fun fs hr => retOut X10 hx hret rfl (Or.inr (Or.inr (Or.inr (Or.inr ⟨rfl, rfl, rfl⟩)))) (hb hby d1_43) hr) ?_ (by decide) (by decide)
        show Q_mk Z _ _ _ _ h0 n0 _ T10.heap _
        rw [own_nar hp2] at V_t10
        exact ⟨.ref b9, rfl, N10, K0, Or.inr ⟨b9, t10, _, [p2], rfl, by simp [mkO, hc2_1, hc8_2, hc24_6], E_b9, F_value_b9_10, F_coder_b9_10, V_t10, (alS hp2 al0), Nat.le_of_ble_eq_true rfl⟩⟩
      · refine GlW.pre (B := s₁.setTop (mkF m 44 #[.val (.int p1), .val (.int p2), .val (.int p3), .unset] [])) (fun _ k => XS.icmpYes X0.here hx rfl (pc0 := 24) (pc' := 44) rfl (hb hby d1_24) rfl (feq hc24_6).2 (by decide) (by decide) k) ?_
        refine GlW.pre (B := s₁.setTop (mkF m 45 #[.val (.int p1), .val (.int p2), .val (.int p3), .unset] [(.int (2 : Int32))])) (fun _ k => XS.iconst X0.here hx rfl (hb hby d1_44) k) ?_
        obtain ⟨T11, h11, k11, X11, e11, E11, A11, st11⟩ := newP X0 hx hZ (hw _ (List.mem_of_getElem? (i := 7) rfl)) e0 (g := (mkF m 45 #[.val (.int p1), .val (.int p2), .val (.int p3), .unset] [(.int (2 : Int32))])) rfl (hb hby d1_45) rfl (by decide) (cap := 2) (by decide) (by decide) (by decide) (by decide)
        obtain ⟨b11, g11⟩ : ∃ z, z = h0.size := ⟨_, rfl⟩
        rw [← g11] at A11 st11
        have g_b11 : n0 ≤ b11 := Nat.le_trans Z0 (Nat.le_of_eq g11.symm)
        have sz_b11 : h0.size ≤ b11 := Nat.le_trans K0.1 (Nat.le_of_eq g11.symm)
        have CR_q := CR.trans (CHr.ext E11 CR.1)
        have Z0 := Nat.le_trans Z0 E11.1
        have Od := Od.ext E11
        have K0 := K0.ext E11
        have CR := CR_q
        have hk11 := Nat.le_trans hk0 E11.1
        have V_b11 : Arv Z h11 b11 k11 .char (2 : Int32) [(.int (0 : Int32)), (.int (0 : Int32))] (.int (0 : Int32)) := (Arv.new A11 (by decide)).pad (pad_rep [] (.int (0 : Int32)) 2)
        refine GlW.pre (B := T11.setTop (mkF m 47 #[.val (.int p1), .val (.int p2), .val (.int p3), .unset] [(.ref b11)])) (fun _ k => st11 _ k) ?_
        refine GlW.pre (B := T11.setTop (mkF m 48 #[.val (.int p1), .val (.int p2), .val (.int p3), .val (.ref b11)] [])) (fun _ k => XS.astoreN X11.here hx rfl (hb hby d1_47) rfl rfl (l' := #[.val (.int p1), .val (.int p2), .val (.int p3), .val (.ref b11)]) rfl k) ?_
        refine GlW.pre (B := T11.setTop (mkF m 49 #[.val (.int p1), .val (.int p2), .val (.int p3), .val (.ref b11)] [(.ref b11)])) (fun _ k => XS.aloadN X11.here hx rfl (hb hby d1_48) rfl rfl k) ?_
        refine GlW.pre (B := T11.setTop (mkF m 50 #[.val (.int p1), .val (.int p2), .val (.int p3), .val (.ref b11)] [(.int (0 : Int32)), (.ref b11)])) (fun _ k => XS.iconst X11.here hx rfl (hb hby d1_49) k) ?_
        refine GlW.pre (B := T11.setTop (mkF m 51 #[.val (.int p1), .val (.int p2), .val (.int p3), .val (.ref b11)] [(.int p2), (.int (0 : Int32)), (.ref b11)])) (fun _ k => XS.iloadN X11.here hx rfl (hb hby d1_50) rfl k) ?_
        obtain ⟨cl12, Ar12, q12, S12, Nn12, H12, G12⟩ := id V_b11
        obtain ⟨T12, h12, X12, e12, W12, st12⟩ := stC X11 hx hZ e11 Ar12 (j := (0 : Int32)) (inb_of S12 ⟨by decide, by decide⟩) (g := (mkF m 51 #[.val (.int p1), .val (.int p2), .val (.int p3), .val (.ref b11)] [(.int p2), (.int (0 : Int32)), (.ref b11)])) rfl rfl (hb hby d1_51)
        have V_b11_n := Arv.set Ar12 q12 S12 Nn12 H12 G12 (fits_nar_char _) W12 0 rfl (Nat.le_of_ble_eq_true rfl)
        have N12 := Fr.snoc X12 N0 g_b11
        have CR_q := CR.trans (CHr.wr W12 (Safe.arv hZ.alike V_b11 (by decide)) CR.1)
        have Z0 := Nat.le_trans Z0 (Keep.of_wr W12).1
        have Od := Od.wr W12 g_b11
        have K0 := K0.wr W12 (Or.inr sz_b11)
        have CR := CR_q
        have hk12 := Nat.le_trans hk11 (Keep.of_wr W12).1
        have V_b11 : Arv Z h12 b11 k11 .char (2 : Int32) [(.int (nar .char p2)), (.int (0 : Int32))] (.int (0 : Int32)) := V_b11_n
        refine GlW.pre (B := T12.setTop (mkF m 52 #[.val (.int p1), .val (.int p2), .val (.int p3), .val (.ref b11)] [])) (fun _ k => st12 _ k) ?_
        refine GlW.pre (B := T12.setTop (mkF m 53 #[.val (.int p1), .val (.int p2), .val (.int p3), .val (.ref b11)] [(.ref b11)])) (fun _ k => XS.aloadN X12.here hx rfl (hb hby d1_52) rfl rfl k) ?_
        refine GlW.pre (B := T12.setTop (mkF m 54 #[.val (.int p1), .val (.int p2), .val (.int p3), .val (.ref b11)] [(.int (1 : Int32)), (.ref b11)])) (fun _ k => XS.iconst X12.here hx rfl (hb hby d1_53) k) ?_
        refine GlW.pre (B := T12.setTop (mkF m 55 #[.val (.int p1), .val (.int p2), .val (.int p3), .val (.ref b11)] [(.int p3), (.int (1 : Int32)), (.ref b11)])) (fun _ k => XS.iloadN X12.here hx rfl (hb hby d1_54) rfl k) ?_
        obtain ⟨cl13, Ar13, q13, S13, Nn13, H13, G13⟩ := id V_b11
        obtain ⟨T13, h13, X13, e13, W13, st13⟩ := stC X12 hx hZ e12 Ar13 (j := (1 : Int32)) (inb_of S13 ⟨by decide, by decide⟩) (g := (mkF m 55 #[.val (.int p1), .val (.int p2), .val (.int p3), .val (.ref b11)] [(.int p3), (.int (1 : Int32)), (.ref b11)])) rfl rfl (hb hby d1_55)
        have V_b11_n := Arv.set Ar13 q13 S13 Nn13 H13 G13 (fits_nar_char _) W13 1 rfl (Nat.le_of_ble_eq_true rfl)
        have N13 := Fr.snoc X13 N12 g_b11
        have CR_q := CR.trans (CHr.wr W13 (Safe.arv hZ.alike V_b11 (by decide)) CR.1)
        have Z0 := Nat.le_trans Z0 (Keep.of_wr W13).1
        have Od := Od.wr W13 g_b11
        have K0 := K0.wr W13 (Or.inr sz_b11)
        have CR := CR_q
        have hk13 := Nat.le_trans hk12 (Keep.of_wr W13).1
        have V_b11 : Arv Z h13 b11 k11 .char (2 : Int32) [(.int (nar .char p2)), (.int (nar .char p3))] (.int (0 : Int32)) := V_b11_n
        refine GlW.pre (B := T13.setTop (mkF m 56 #[.val (.int p1), .val (.int p2), .val (.int p3), .val (.ref b11)] [])) (fun _ k => st13 _ k) ?_
        obtain ⟨T14, h14, X14, e14, E14, A14, D14, -, st14⟩ := newO X13 hx hZ hown (hw _ (List.mem_of_getElem? (i := 4) rfl)) (hw _ (List.mem_of_getElem? (i := 5) rfl)) (hw _ (List.mem_of_getElem? (i := 6) rfl)) e13 (g := (mkF m 56 #[.val (.int p1), .val (.int p2), .val (.int p3), .val (.ref b11)] [])) rfl (hb hby d1_56) (by decide) (by decide)
        obtain ⟨b14, g14⟩ : ∃ z, z = h13.size := ⟨_, rfl⟩
        rw [← g14] at A14 D14 st14
        have ne_b11_b14 : b11 ≠ b14 := Nat.ne_of_lt (Nat.lt_of_lt_of_le V_b11.lt (Nat.le_of_eq g14.symm))
        have g_b14 : n0 ≤ b14 := Nat.le_trans Z0 (Nat.le_of_eq g14.symm)
        have sz_b14 : h0.size ≤ b14 := Nat.le_trans K0.1 (Nat.le_of_eq g14.symm)
        have Sf_b14 : Safe Z EL1 s.vm h13 b14 := Safe.new (Nat.le_of_eq g14.symm)
        have CR_q := CR.trans (CHr.ext E14 CR.1)
        have Sf_b14_q := Safe.ext E14 CR.1 Sf_b14
        have Z0 := Nat.le_trans Z0 E14.1
        have Od := Od.ext E14
        have K0 := K0.ext E14
        have V_b11 := V_b11.ext E14
        have CR := CR_q
        have Sf_b14 := Sf_b14_q
        have hk14 := Nat.le_trans hk13 E14.1
        have E_b14 := A14
        have F_value_b14 : Fld Z h14 b14 "java/lang/String" "value" "[B" .null := D14 (Or.inr (hw _ (List.mem_of_getElem? (i := 20) rfl))) (ty := (.array .byte)) (by decide)
        have F_coder_b14 : Fld Z h14 b14 "java/lang/String" "coder" "B" (.int (0 : Int32)) := D14 (Or.inr (hw _ (List.mem_of_getElem? (i := 21) rfl))) (ty := .byte) (by decide)
        refine GlW.pre (B := T14.setTop (mkF m 59 #[.val (.int p1), .val (.int p2), .val (.int p3), .val (.ref b11)] [(.ref b14)])) (fun _ k => st14 _ k) ?_
        refine GlW.pre (B := T14.setTop (mkF m 60 #[.val (.int p1), .val (.int p2), .val (.int p3), .val (.ref b11)] [(.ref b14), (.ref b14)])) (fun _ k => XS.dup X14.here hx rfl (hb hby d1_59) rfl rfl k) ?_
        refine GlW.pre (B := T14.setTop (mkF m 61 #[.val (.int p1), .val (.int p2), .val (.int p3), .val (.ref b11)] [(.ref b11), (.ref b14), (.ref b14)])) (fun _ k => XS.aloadN X14.here hx rfl (hb hby d1_60) rfl rfl k) ?_
        obtain ⟨rv15, _, ⟨T15, L15, k15, n15⟩, -, X15, ⟨Lc15, hQ15, l15, y15, z15⟩, st15⟩ := X14.specialBack hx (y := (⟨"java/lang/String", "<init>", "([C)V"⟩ : MethodName)) rfl hown (mvT hZ (hw _ (List.mem_of_getElem? (i := 8) rfl))) (mvT hZ (hw _ (List.mem_of_getElem? (i := 9) rfl))) (mvT hZ (hw _ (List.mem_of_getElem? (i := 10) rfl))) (by decide) (StrChars.Road.backV (W := 1) hZ (str_words hw) (kI := 4) (hw _ (List.mem_of_getElem? (i := 5) rfl)) (cs := ([(nar .char p2), (nar .char p3)] : List Int32)) (bs := ([(nar .char p2), (nar .char p3)] : List Int32).map (fun c => c.toInt8.toInt32)) (n := 2) g_b14 Z0 E_b14 F_value_b14 F_coder_b14 V_b11 (O2.ext Od.2) P5 rfl rfl (by decide) (by decide) (alS ((own_nar hp2).symm ▸ hp2) (alS ((own_nar hp3).symm ▸ hp3) al0)) rfl (by decide) (by decide)) (g := (mkF m 61 #[.val (.int p1), .val (.int p2), .val (.int p3), .val (.ref b11)] [(.ref b11), (.ref b14), (.ref b14)])) rfl (by rw [hml]; rfl) (Steps.refl _) (a := b14) (argsL := [(.ref b11)]) (rest := [(.ref b14)]) (lenOf pd_1 rfl) rfl (by show 2 * 0 + _ ≤ _; exact Nat.le_of_eq rfl) (hb hby d1_61) (fun _ _ => ⟨rfl, e14, (by decide : 2 + 1 ≤ _), (by decide : 6 + 2 ≤ _)⟩)
        dsimp only [Pt.U, Pt.locs, Pt.cells, Pt.slots] at X15 l15 y15 z15 st15 hQ15
        subst l15 y15 z15
        obtain ⟨rfl, N15q, K15, -, F_coder_b14_15, t15, kb15, -, nz_t15, -, F_value_b14_15, V_t15⟩ := hQ15
        have N15 := Fr.app N13 N15q
        have ne_b11_t15 : b11 ≠ t15 := Nat.ne_of_lt (Nat.lt_of_lt_of_le V_b11.lt nz_t15)
        have ne_b14_t15 : b14 ≠ t15 := Nat.ne_of_lt (Nat.lt_of_lt_of_le E_b14.lt nz_t15)
        have g_t15 : n0 ≤ t15 := Nat.le_trans Z0 nz_t15
        have sz_t15 : h0.size ≤ t15 := Nat.le_trans K0.1 nz_t15
        have CR_q := CR.trans (CHr.keep K15 (sfS Sf_b14 sf0) CR.1)
        have Sf_b14_q := Safe.keep K15 (sfS Sf_b14 sf0) CR.1 Sf_b14
        have Z0 := Nat.le_trans Z0 K15.1
        have Od := Od.keep K15 (allS g_b14 all0)
        have K0 := K0.trans K15 (allS (Or.inr sz_b14) all0)
        have V_b11 := V_b11.keep K15 (ninS ne_b11_b14 nin0)
        have E_b14 := E_b14.keep K15
        have CR := CR_q
        have Sf_b14 := Sf_b14_q
        have hk15 := Nat.le_trans hk14 K15.1
        refine GlW.pre (B := T15.setTop (mkF m 64 #[.val (.int p1), .val (.int p2), .val (.int p3), .val (.ref b11)] [(.ref b14)])) (fun _ k => st15.trans k) ?_
        refine GlW.out X15 hsh rfl hS0 hk15 hZ hEL CR (v := some (.ref b14)) (fun h => by rw [hret] at h; cases h) hlk (fun fs hr => retOut X15 hx hret rfl (Or.inr (Or.inr (Or.inr (Or.inr ⟨rfl, rfl, rfl⟩)))) (hb hby d1_64) hr) ?_ (by decide) (by decide)
        show Q_mk Z _ _ _ _ h0 n0 _ T15.heap _
        rw [own_nar hp2, own_nar hp3] at V_t15
        exact ⟨.ref b14, rfl, N15, K0, Or.inr ⟨b14, t15, _, [p2, p3], rfl, by simp [mkO, hc2_1, hc8_2, hc24_6], E_b14, F_value_b14_15, F_coder_b14_15, V_t15, (alS hp2 (alS hp3 al0)), Nat.le_of_ble_eq_true rfl⟩⟩
theorem d9_0 : decode jdk_30_method_1_code 0 = .ok (.aload_n 0, 1) := by decide +kernel
theorem d9_1 : decode jdk_30_method_1_code 1 = .ok (.invokespecial 1, 3) := by decide +kernel
theorem d9_4 : decode jdk_30_method_1_code 4 = .ok (.return_, 1) := by decide +kernel
theorem pn_java_lang_Record : plainName "java/lang/Record" = true := by first | (simp [plainName, overriddenIn]; done) | decide +kernel
theorem ef_recInit (m : MethodId) (x0 : Addr) : entryFrame m #[(.ref x0)] 1 = mkF m 0 #[.val (.ref x0)] [] := by first | (simp [entryFrame, mkF, argsToLocals, Value.category]; done) | rfl
def Q_recInit (Z : State) (a1 : Addr) (h0 : Heap) (n0 : Nat) (v : Option Value) (h : Heap) (L : List Loc) : Prop := v = none ∧ Fr n0 L ∧ (h = h0)
set_option maxRecDepth 65536 in
set_option maxHeartbeats 40000000 in
theorem recInit (l : Launch) (Z : State) (a0 : Array Value) (hw : ∀ d ∈ tables_1, d.before a0 Z = true) (ws : List Jvm.Cond) (a1 : Addr) (h0 : Heap) (n0 : Nat) (Z0 : n0 ≤ h0.size)  :
    MetFree l (⟨"java/lang/Record", "<init>", "()V"⟩ : MethodName) (head1 (Jvm.Cond.code (⟨"java/lang/Record", "<init>", "()V"⟩ : MethodName) jdk_30_method_1_code 1 none :: ws) ({ frames := 1, cells := 0, slots := 0, locals := 12 } : Room)) (fun a U => a = #[(.ref a1)] ∧ Z.Warmed39 U.vm ∧ U.heap = h0) (fun _ _ _ _ _ => True) (fun _ U o U' => ∃ v L, o = .returned v ∧ Q_recInit Z a1 h0 n0 v U'.heap L ∧ FrameEnd U o U' L ({ frames := 1, cells := 0, slots := 0, locals := 12 } : Room).cells ({ frames := 1, cells := 0, slots := 0, locals := 12 } : Room).slots) := by
  refine MetFree.of_bodySF (plainFor_of_name pn_java_lang_Record) hisR ?_
  intro p e s m args below meth c s₁ Bd hml0 hP hK
  obtain ⟨rfl, hZ, hh⟩ := hP
  have hx := Bd.exec
  have hby := Bd.bytes
  have hml : c.maxLocals = 1 := hml0
  have hown : s.vm.findClass "java/lang/Record" = some m.cls := findClass_of_methodNamed Bd.named
  have hnm := (name_of_methodNamed Bd.named Bd.method).1
  have hret : meth.sig.returnType = none := Bd.returns
  have hlk : meth.locks = false := BodyLoose.notSynchronized Bd
  have X0 : Stand p l e ({ frames := 1, cells := 0, slots := 0, locals := 12 } : Room) s m #[(.ref a1)] below meth c s₁ [] 0 0 := Stand.of_body Bd
  have e0 : s₁.heap = h0 := by rw [← hh, Bd.state]; rfl
  have N0 := Fr.nil n0
  have K0 : Keep h0 h0 [] := Keep.refl h0 _
  show Gl p.tables e below s (Q_recInit Z a1 h0 n0) 0 0 _
  refine Gl.pre (B := s₁.setTop (mkF m 0 #[.val (.ref a1)] [])) (fun _ k => castTop (ef_recInit m a1) k) ?_
  refine Gl.pre (B := s₁.setTop (mkF m 1 #[.val (.ref a1)] [(.ref a1)])) (fun _ k => XS.aloadN X0.here hx rfl (hb hby d9_0) rfl rfl k) ?_
  obtain ⟨T1, X1, e1, st1⟩ := initO X0 hx hZ hown (hw _ (List.mem_of_getElem? (i := 48) rfl)) (hw _ (List.mem_of_getElem? (i := 16) rfl)) (hw _ (List.mem_of_getElem? (i := 17) rfl)) e0 (g := (mkF m 1 #[.val (.ref a1)] [(.ref a1)])) rfl (by rw [hml]; rfl) rfl (hb hby d9_1) (by decide) (W := 0) (by show 2 * 0 + _ ≤ _; exact Nat.le_of_eq rfl) (by decide)
  refine Gl.pre (B := T1.setTop (mkF m 4 #[.val (.ref a1)] [])) (fun _ k => st1 _ k) ?_
  refine Gl.out X1 (v := none) (fun _ => rfl) hlk (fun fs hr => X1.returnOut hx hret (hb hby d9_4) hr) ?_ (by decide) (by decide)
  show Q_recInit Z _ h0 n0 _ T1.heap _
  rw [e1]
  exact ⟨rfl, N0, rfl⟩
theorem pd_2 : parseMethodDescriptor "()V" = some ⟨[], none⟩ := by decide +kernel
theorem d8_0 : decode prog_24_method_1_code 0 = .ok (.aload_n 0, 1) := by decide +kernel
theorem d8_1 : decode prog_24_method_1_code 1 = .ok (.invokespecial 1, 3) := by decide +kernel
theorem d8_4 : decode prog_24_method_1_code 4 = .ok (.aload_n 0, 1) := by decide +kernel
theorem d8_5 : decode prog_24_method_1_code 5 = .ok (.aload_n 1, 1) := by decide +kernel
theorem d8_6 : decode prog_24_method_1_code 6 = .ok (.putfield 7, 3) := by decide +kernel
theorem d8_9 : decode prog_24_method_1_code 9 = .ok (.aload_n 0, 1) := by decide +kernel
theorem d8_10 : decode prog_24_method_1_code 10 = .ok (.aload_n 2, 1) := by decide +kernel
theorem d8_11 : decode prog_24_method_1_code 11 = .ok (.putfield 13, 3) := by decide +kernel
theorem d8_14 : decode prog_24_method_1_code 14 = .ok (.return_, 1) := by decide +kernel
theorem pn_com_example_tranquility_tranquility_LocationPath_NameTest : plainName "com/example/tranquility/tranquility/LocationPath$NameTest" = true := by first | (simp [plainName, overriddenIn]; done) | decide +kernel
theorem ef_ntInit (m : MethodId) (x0 : Addr) (x1 : Value) (x2 : Value) (hv1 : x1.isRef = true) (hv2 : x2.isRef = true) : entryFrame m #[(.ref x0), x1, x2] 3 = mkF m 0 #[.val (.ref x0), .val x1, .val x2] [] := by
  all_goals rcases ref_cases hv1 with rfl | ⟨_, rfl⟩
  all_goals rcases ref_cases hv2 with rfl | ⟨_, rfl⟩
  all_goals first | (simp [entryFrame, mkF, argsToLocals, Value.category]; done) | rfl
def Q_ntInit (Z : State) (a1 : Addr) (v2 : Value) (v3 : Value) (h0 : Heap) (n0 : Nat) (v : Option Value) (h : Heap) (L : List Loc) : Prop := v = none ∧ Fr n0 L ∧ (Keep h0 h [a1]) ∧ (Fld Z h a1 "com/example/tranquility/tranquility/LocationPath$NameTest" "namespace" "Ljava/lang/String;" v2) ∧ (Fld Z h a1 "com/example/tranquility/tranquility/LocationPath$NameTest" "localName" "Ljava/lang/String;" v3)
set_option maxRecDepth 65536 in
set_option maxHeartbeats 40000000 in
theorem ntInit (l : Launch) (Z : State) (a0 : Array Value) (hw : ∀ d ∈ tables_1, d.before a0 Z = true) (ws : List Jvm.Cond) (a1 : Addr) (v2 : Value) (v3 : Value) (h0 : Heap) (n0 : Nat) (Z0 : n0 ≤ h0.size) (g_a1 : n0 ≤ a1) (E_a1 : Exa Z h0 a1 "com/example/tranquility/tranquility/LocationPath$NameTest") (F_n : Fld Z h0 a1 "com/example/tranquility/tranquility/LocationPath$NameTest" "namespace" "Ljava/lang/String;" .null) (F_l : Fld Z h0 a1 "com/example/tranquility/tranquility/LocationPath$NameTest" "localName" "Ljava/lang/String;" .null) (hv2 : v2.isRef = true) (hv3 : v3.isRef = true) :
    MetFree l (⟨"com/example/tranquility/tranquility/LocationPath$NameTest", "<init>", "(Ljava/lang/String;Ljava/lang/String;)V"⟩ : MethodName) (head1 (Jvm.Cond.code (⟨"com/example/tranquility/tranquility/LocationPath$NameTest", "<init>", "(Ljava/lang/String;Ljava/lang/String;)V"⟩ : MethodName) prog_24_method_1_code 3 none :: ws) ({ frames := 2, cells := 0, slots := 0, locals := 24 } : Room)) (fun a U => a = #[(.ref a1), v2, v3] ∧ Z.Warmed39 U.vm ∧ U.heap = h0) (fun _ _ _ _ _ => True) (fun _ U o U' => ∃ v L, o = .returned v ∧ Q_ntInit Z a1 v2 v3 h0 n0 v U'.heap L ∧ FrameEnd U o U' L ({ frames := 2, cells := 0, slots := 0, locals := 24 } : Room).cells ({ frames := 2, cells := 0, slots := 0, locals := 24 } : Room).slots) := by
  refine MetFree.of_bodySF (plainFor_of_name pn_com_example_tranquility_tranquility_LocationPath_NameTest) hisR ?_
  intro p e s m args below meth c s₁ Bd hml0 hP hK
  obtain ⟨rfl, hZ, hh⟩ := hP
  have hx := Bd.exec
  have hby := Bd.bytes
  have hml : c.maxLocals = 3 := hml0
  have hown : s.vm.findClass "com/example/tranquility/tranquility/LocationPath$NameTest" = some m.cls := findClass_of_methodNamed Bd.named
  have hnm := (name_of_methodNamed Bd.named Bd.method).1
  have hret : meth.sig.returnType = none := Bd.returns
  have hlk : meth.locks = false := BodyLoose.notSynchronized Bd
  have X0 : Stand p l e ({ frames := 2, cells := 0, slots := 0, locals := 24 } : Room) s m #[(.ref a1), v2, v3] below meth c s₁ [] 0 0 := Stand.of_body Bd
  have e0 : s₁.heap = h0 := by rw [← hh, Bd.state]; rfl
  have N0 := Fr.nil n0
  have K0 : Keep h0 h0 [a1] := Keep.refl h0 _
  show Gl p.tables e below s (Q_ntInit Z a1 v2 v3 h0 n0) 0 0 _
  refine Gl.pre (B := s₁.setTop (mkF m 0 #[.val (.ref a1), .val v2, .val v3] [])) (fun _ k => castTop (ef_ntInit m a1 v2 v3 hv2 hv3) k) ?_
  refine Gl.pre (B := s₁.setTop (mkF m 1 #[.val (.ref a1), .val v2, .val v3] [(.ref a1)])) (fun _ k => XS.aloadN X0.here hx rfl (hb hby d8_0) rfl rfl k) ?_
  obtain ⟨rv1, _, ⟨T1, L1, k1, n1⟩, -, X1, ⟨Lc1, hQ1, l1, y1, z1⟩, st1⟩ := X0.specialBack hx (y := (⟨"java/lang/Record", "<init>", "()V"⟩ : MethodName)) rfl hown (mvT hZ (hw _ (List.mem_of_getElem? (i := 43) rfl))) (mvT hZ (hw _ (List.mem_of_getElem? (i := 44) rfl))) (mvT hZ (hw _ (List.mem_of_getElem? (i := 47) rfl))) (by decide) (backOf (W := 0) (recInit l Z a0 hw [] a1 h0 n0 Z0 ) hZ (hw _ (List.mem_of_getElem? (i := 47) rfl)) (hw _ (List.mem_of_getElem? (i := 46) rfl)) (by decide) (by decide)) (g := (mkF m 1 #[.val (.ref a1), .val v2, .val v3] [(.ref a1)])) rfl (by rw [hml]; rfl) (Steps.refl _) (a := a1) (argsL := []) (rest := []) (lenOf pd_2 rfl) rfl (by show 2 * 0 + _ ≤ _; exact Nat.le_of_eq rfl) (hb hby d8_1) (fun _ _ => ⟨rfl, e0, (by decide : 0 + 0 ≤ _), (by decide : 0 + 0 ≤ _)⟩)
  dsimp only [Pt.U, Pt.locs, Pt.cells, Pt.slots] at X1 l1 y1 z1 st1 hQ1
  subst l1 y1 z1
  obtain ⟨rfl, N1q, e1⟩ := hQ1
  have N1 := Fr.app N0 N1q
  refine Gl.pre (B := T1.setTop (mkF m 4 #[.val (.ref a1), .val v2, .val v3] [])) (fun _ k => st1.trans k) ?_
  refine Gl.pre (B := T1.setTop (mkF m 5 #[.val (.ref a1), .val v2, .val v3] [(.ref a1)])) (fun _ k => XS.aloadN X1.here hx rfl (hb hby d8_4) rfl rfl k) ?_
  refine Gl.pre (B := T1.setTop (mkF m 6 #[.val (.ref a1), .val v2, .val v3] [v2, (.ref a1)])) (fun _ k => XS.aloadN X1.here hx rfl (hb hby d8_5) rfl hv2 k) ?_
  obtain ⟨T2, h2, X2, e2, W2, st2⟩ := putF X1 hx hZ hown (host := "") (Or.inl (hw _ (List.mem_of_getElem? (i := 49) rfl))) Via.refl e1 F_n E_a1 (Or.inr ⟨(hw _ (List.mem_of_getElem? (i := 50) rfl)), rfl, hnm⟩) (hw _ (List.mem_of_getElem? (i := 38) rfl)) (ty := (.object "java/lang/String")) (by decide) (own_narO hv2) (own_fitO hv2) (g := (mkF m 6 #[.val (.ref a1), .val v2, .val v3] [v2, (.ref a1)])) rfl rfl (hb hby d8_6)
  have N2 := Fr.snoc X2 N1 g_a1
  have F_n_n := F_n.same W2
  have Z0 := Nat.le_trans Z0 (Keep.of_wr W2).1
  have E_a1 := E_a1.wr W2
  have F_l := F_l.other W2 (Or.inr (slot_ne (Or.inr (hw _ (List.mem_of_getElem? (i := 52) rfl))) (Or.inr (hw _ (List.mem_of_getElem? (i := 50) rfl))) (by decide) (t := (.object "java/lang/String")) (t' := (.object "java/lang/String")) (by decide) (by decide)))
  have K0 := K0.wr W2 (Or.inl (List.mem_of_getElem? (i := 0) rfl))
  have F_n := F_n_n
  refine Gl.pre (B := T2.setTop (mkF m 9 #[.val (.ref a1), .val v2, .val v3] [])) (fun _ k => st2 _ k) ?_
  refine Gl.pre (B := T2.setTop (mkF m 10 #[.val (.ref a1), .val v2, .val v3] [(.ref a1)])) (fun _ k => XS.aloadN X2.here hx rfl (hb hby d8_9) rfl rfl k) ?_
  refine Gl.pre (B := T2.setTop (mkF m 11 #[.val (.ref a1), .val v2, .val v3] [v3, (.ref a1)])) (fun _ k => XS.aloadN X2.here hx rfl (hb hby d8_10) rfl hv3 k) ?_
  obtain ⟨T3, h3, X3, e3, W3, st3⟩ := putF X2 hx hZ hown (host := "") (Or.inl (hw _ (List.mem_of_getElem? (i := 51) rfl))) Via.refl e2 F_l E_a1 (Or.inr ⟨(hw _ (List.mem_of_getElem? (i := 52) rfl)), rfl, hnm⟩) (hw _ (List.mem_of_getElem? (i := 38) rfl)) (ty := (.object "java/lang/String")) (by decide) (own_narO hv3) (own_fitO hv3) (g := (mkF m 11 #[.val (.ref a1), .val v2, .val v3] [v3, (.ref a1)])) rfl rfl (hb hby d8_11)
  have N3 := Fr.snoc X3 N2 g_a1
  have F_l_n := F_l.same W3
  have Z0 := Nat.le_trans Z0 (Keep.of_wr W3).1
  have E_a1 := E_a1.wr W3
  have K0 := K0.wr W3 (Or.inl (List.mem_of_getElem? (i := 0) rfl))
  have F_n := F_n.other W3 (Or.inr (slot_ne (Or.inr (hw _ (List.mem_of_getElem? (i := 50) rfl))) (Or.inr (hw _ (List.mem_of_getElem? (i := 52) rfl))) (by decide) (t := (.object "java/lang/String")) (t' := (.object "java/lang/String")) (by decide) (by decide)))
  have F_l := F_l_n
  refine Gl.pre (B := T3.setTop (mkF m 14 #[.val (.ref a1), .val v2, .val v3] [])) (fun _ k => st3 _ k) ?_
  refine Gl.out X3 (v := none) (fun _ => rfl) hlk (fun fs hr => X3.returnOut hx hret (hb hby d8_14) hr) ?_ (by decide) (by decide)
  show Q_ntInit Z _ _ _ h0 n0 _ T3.heap _
  rw [e3]
  exact ⟨rfl, N3, K0, F_n, F_l⟩
theorem d11_0 : decode jdk_42_method_66_code 0 = .ok (.aload_n 0, 1) := by decide +kernel
theorem d11_1 : decode jdk_42_method_66_code 1 = .ok (.aload_n 1, 1) := by decide +kernel
theorem d11_2 : decode jdk_42_method_66_code 2 = .ok (.if_acmp .ne 5, 3) := by decide +kernel
theorem d11_7 : decode jdk_42_method_66_code 7 = .ok (.aload_n 1, 1) := by decide +kernel
theorem d11_8 : decode jdk_42_method_66_code 8 = .ok (.instanceof 10, 3) := by decide +kernel
theorem d11_11 : decode jdk_42_method_66_code 11 = .ok (.ifCond .eq 43, 3) := by decide +kernel
theorem d11_54 : decode jdk_42_method_66_code 54 = .ok (.iconst 0, 1) := by decide +kernel
theorem d11_55 : decode jdk_42_method_66_code 55 = .ok (.ireturn, 1) := by decide +kernel
theorem ef_eqN (m : MethodId) (x0 : Addr) : entryFrame m #[(.ref x0), .null] 3 = mkF m 0 #[.val (.ref x0), .val .null, .unset] [] := by first | (simp [entryFrame, mkF, argsToLocals, Value.category]; done) | rfl
def Q_eqN (Z : State) (a1 : Addr) (h0 : Heap) (n0 : Nat) (v : Option Value) (h : Heap) (L : List Loc) : Prop := v = some (.int (0 : Int32)) ∧ Fr n0 L ∧ (h = h0)
set_option maxRecDepth 65536 in
set_option maxHeartbeats 40000000 in
theorem eqN (l : Launch) (Z : State) (a0 : Array Value) (hw : ∀ d ∈ tables_1, d.before a0 Z = true) (ws : List Jvm.Cond) (a1 : Addr) (h0 : Heap) (n0 : Nat) (Z0 : n0 ≤ h0.size)  :
    MetFree l (⟨"java/lang/String", "equals", "(Ljava/lang/Object;)Z"⟩ : MethodName) (head1 (Jvm.Cond.code (⟨"java/lang/String", "equals", "(Ljava/lang/Object;)Z"⟩ : MethodName) jdk_42_method_66_code 3 (some .boolean) :: ws) ({ frames := 0, cells := 0, slots := 0, locals := 0 } : Room)) (fun a U => a = #[(.ref a1), .null] ∧ Z.Warmed39 U.vm ∧ U.heap = h0) (fun _ _ _ _ _ => True) (fun _ U o U' => ∃ v L, o = .returned v ∧ Q_eqN Z a1 h0 n0 v U'.heap L ∧ FrameEnd U o U' L ({ frames := 0, cells := 0, slots := 0, locals := 0 } : Room).cells ({ frames := 0, cells := 0, slots := 0, locals := 0 } : Room).slots) := by
  refine MetFree.of_bodySF (plainFor_of_name pn_java_lang_String) hisR ?_
  intro p e s m args below meth c s₁ Bd hml0 hP hK
  obtain ⟨rfl, hZ, hh⟩ := hP
  have hx := Bd.exec
  have hby := Bd.bytes
  have hml : c.maxLocals = 3 := hml0
  have hown : s.vm.findClass "java/lang/String" = some m.cls := findClass_of_methodNamed Bd.named
  have hnm := (name_of_methodNamed Bd.named Bd.method).1
  have hret : meth.sig.returnType = (some .boolean) := Bd.returns
  have hlk : meth.locks = false := BodyLoose.notSynchronized Bd
  have X0 : Stand p l e ({ frames := 0, cells := 0, slots := 0, locals := 0 } : Room) s m #[(.ref a1), .null] below meth c s₁ [] 0 0 := Stand.of_body Bd
  have e0 : s₁.heap = h0 := by rw [← hh, Bd.state]; rfl
  have N0 := Fr.nil n0
  have K0 : Keep h0 h0 [] := Keep.refl h0 _
  show Gl p.tables e below s (Q_eqN Z a1 h0 n0) 0 0 _
  refine Gl.pre (B := s₁.setTop (mkF m 0 #[.val (.ref a1), .val .null, .unset] [])) (fun _ k => castTop (ef_eqN m a1) k) ?_
  refine Gl.pre (B := s₁.setTop (mkF m 1 #[.val (.ref a1), .val .null, .unset] [(.ref a1)])) (fun _ k => XS.aloadN X0.here hx rfl (hb hby d11_0) rfl rfl k) ?_
  refine Gl.pre (B := s₁.setTop (mkF m 2 #[.val (.ref a1), .val .null, .unset] [.null, (.ref a1)])) (fun _ k => XS.aloadN X0.here hx rfl (hb hby d11_1) rfl rfl k) ?_
  refine Gl.pre (B := s₁.setTop (mkF m 7 #[.val (.ref a1), .val .null, .unset] [])) (fun _ k => Jvm.RoadKit.acmp (g := (mkF m 2 #[.val (.ref a1), .val .null, .unset] [.null, (.ref a1)])) X0 hx rfl rfl rfl (pc0 := 2) (pc' := 7) (same := false) rfl (hb hby d11_2) rfl (decide_eq_false nofun) (by decide) (by decide) k) ?_
  refine Gl.pre (B := s₁.setTop (mkF m 8 #[.val (.ref a1), .val .null, .unset] [.null])) (fun _ k => XS.aloadN X0.here hx rfl (hb hby d11_7) rfl rfl k) ?_
  refine Gl.pre (B := s₁.setTop (mkF m 11 #[.val (.ref a1), .val .null, .unset] [(.int (0 : Int32))])) (fun _ k => X0.instanceofNull hx (g := (mkF m 8 #[.val (.ref a1), .val .null, .unset] [.null])) rfl rfl (hb hby d11_8) _ k) ?_
  refine Gl.pre (B := s₁.setTop (mkF m 54 #[.val (.ref a1), .val .null, .unset] [])) (fun _ k => XS.ifYes X0.here hx rfl (pc0 := 11) (pc' := 54) rfl (hb hby d11_11) rfl ((if0 _ _).trans (teq (by decide : (0 : Int32) = (0 : Int32))).1) (by decide) (by decide) k) ?_
  refine Gl.pre (B := s₁.setTop (mkF m 55 #[.val (.ref a1), .val .null, .unset] [(.int (0 : Int32))])) (fun _ k => XS.iconst X0.here hx rfl (hb hby d11_54) k) ?_
  refine Gl.out X0 (v := some (.int (0 : Int32))) (fun h => by rw [hret] at h; cases h) hlk (fun fs hr => retN X0 hx (t := .boolean) hret (by simp) (hb hby d11_55) hr) ?_ (by decide) (by decide)
  show Q_eqN Z _ h0 n0 _ s₁.heap _
  rw [e0]
  exact ⟨rfl, N0, rfl⟩
theorem pd_3 : parseMethodDescriptor "(Ljava/lang/Object;)Z" = some ⟨[(.object "java/lang/Object")], some .boolean⟩ := by decide +kernel
theorem d10_0 : decode prog_24_method_2_code 0 = .ok (.aload_n 0, 1) := by decide +kernel
theorem d10_1 : decode prog_24_method_2_code 1 = .ok (.getfield 7, 3) := by decide +kernel
theorem d10_4 : decode prog_24_method_2_code 4 = .ok (.ifnull 14, 3) := by decide +kernel
theorem d10_18 : decode prog_24_method_2_code 18 = .ok (.aload_n 0, 1) := by decide +kernel
theorem d10_19 : decode prog_24_method_2_code 19 = .ok (.getfield 13, 3) := by decide +kernel
theorem d10_22 : decode prog_24_method_2_code 22 = .ok (.ifnull 14, 3) := by decide +kernel
theorem d10_36 : decode prog_24_method_2_code 36 = .ok (.iconst 1, 1) := by decide +kernel
theorem d10_37 : decode prog_24_method_2_code 37 = .ok (.goto 4, 3) := by decide +kernel
theorem d10_41 : decode prog_24_method_2_code 41 = .ok (.ireturn, 1) := by decide +kernel
theorem d10_25 : decode prog_24_method_2_code 25 = .ok (.aload_n 0, 1) := by decide +kernel
theorem d10_26 : decode prog_24_method_2_code 26 = .ok (.getfield 13, 3) := by decide +kernel
theorem d10_29 : decode prog_24_method_2_code 29 = .ok (.aload_n 2, 1) := by decide +kernel
theorem d10_30 : decode prog_24_method_2_code 30 = .ok (.invokevirtual 16, 3) := by decide +kernel
theorem d10_33 : decode prog_24_method_2_code 33 = .ok (.ifCond .eq 7, 3) := by decide +kernel
theorem d10_40 : decode prog_24_method_2_code 40 = .ok (.iconst 0, 1) := by decide +kernel
theorem d10_7 : decode prog_24_method_2_code 7 = .ok (.aload_n 0, 1) := by decide +kernel
theorem d10_8 : decode prog_24_method_2_code 8 = .ok (.getfield 7, 3) := by decide +kernel
theorem d10_11 : decode prog_24_method_2_code 11 = .ok (.aload_n 1, 1) := by decide +kernel
theorem d10_12 : decode prog_24_method_2_code 12 = .ok (.invokevirtual 16, 3) := by decide +kernel
theorem d10_15 : decode prog_24_method_2_code 15 = .ok (.ifCond .eq 25, 3) := by decide +kernel
theorem ef_mtc (m : MethodId) (x0 : Addr) (x1 : Value) (x2 : Value) (hv1 : x1.isRef = true) (hv2 : x2.isRef = true) : entryFrame m #[(.ref x0), x1, x2] 3 = mkF m 0 #[.val (.ref x0), .val x1, .val x2] [] := by
  all_goals rcases ref_cases hv1 with rfl | ⟨_, rfl⟩
  all_goals rcases ref_cases hv2 with rfl | ⟨_, rfl⟩
  all_goals first | (simp [entryFrame, mkF, argsToLocals, Value.category]; done) | rfl
def Q_mtc (Z : State) (a1 : Addr) (v3 : Value) (v4 : Value) (v1 : Value) (v2 : Value) (o1 : Option (List Int32)) (o2 : Option (List Int32)) (o3 : Option (List Int32)) (o4 : Option (List Int32)) (G1 : Int32) (h0 : Heap) (n0 : Nat) (v : Option Value) (h : Heap) (L : List Loc) : Prop := v = some (.int (bI (mt o1 o2 o3 o4))) ∧ Fr n0 L ∧ (h = h0)
set_option maxRecDepth 65536 in
set_option maxHeartbeats 40000000 in
theorem mtc (l : Launch) (Z : State) (a0 : Array Value) (hw : ∀ d ∈ tables_1, d.before a0 Z = true) (ws : List Jvm.Cond) (a1 : Addr) (v3 : Value) (v4 : Value) (v1 : Value) (v2 : Value) (o1 : Option (List Int32)) (o2 : Option (List Int32)) (o3 : Option (List Int32)) (o4 : Option (List Int32)) (G1 : Int32) (h0 : Heap) (n0 : Nat) (Z0 : n0 ≤ h0.size) (F_n : Fld Z h0 a1 "com/example/tranquility/tranquility/LocationPath$NameTest" "namespace" "Ljava/lang/String;" v1) (F_l : Fld Z h0 a1 "com/example/tranquility/tranquility/LocationPath$NameTest" "localName" "Ljava/lang/String;" v2) (so1 : SO Z h0 v1 o1) (so2 : SO Z h0 v2 o2) (so3 : SO Z h0 v3 o3) (so4 : SO Z h0 v4 o4) (O2 : Sta Z Z.heap "java/lang/String" "COMPACT_STRINGS" "Z" (.int G1)) (P5 : ¬ (G1 = (0 : Int32))) (Od : Old Z n0 h0) :
    MetFree l (⟨"com/example/tranquility/tranquility/LocationPath$NameTest", "matches", "(Ljava/lang/String;Ljava/lang/String;)Z"⟩ : MethodName) (head1 (Jvm.Cond.code (⟨"com/example/tranquility/tranquility/LocationPath$NameTest", "matches", "(Ljava/lang/String;Ljava/lang/String;)Z"⟩ : MethodName) prog_24_method_2_code 3 (some .boolean) :: ws) ({ frames := 2, cells := 0, slots := 0, locals := 28 } : Room)) (fun a U => a = #[(.ref a1), v3, v4] ∧ Z.Warmed39 U.vm ∧ U.heap = h0) (fun _ _ _ _ _ => True) (fun _ U o U' => ∃ v L, o = .returned v ∧ Q_mtc Z a1 v3 v4 v1 v2 o1 o2 o3 o4 G1 h0 n0 v U'.heap L ∧ FrameEnd U o U' L ({ frames := 2, cells := 0, slots := 0, locals := 28 } : Room).cells ({ frames := 2, cells := 0, slots := 0, locals := 28 } : Room).slots) := by
  refine MetFree.of_bodySF (plainFor_of_name pn_com_example_tranquility_tranquility_LocationPath_NameTest) hisR ?_
  intro p e s m args below meth c s₁ Bd hml0 hP hK
  obtain ⟨rfl, hZ, hh⟩ := hP
  have hx := Bd.exec
  have hby := Bd.bytes
  have hml : c.maxLocals = 3 := hml0
  have hown : s.vm.findClass "com/example/tranquility/tranquility/LocationPath$NameTest" = some m.cls := findClass_of_methodNamed Bd.named
  have hnm := (name_of_methodNamed Bd.named Bd.method).1
  have hret : meth.sig.returnType = (some .boolean) := Bd.returns
  have hlk : meth.locks = false := BodyLoose.notSynchronized Bd
  have X0 : Stand p l e ({ frames := 2, cells := 0, slots := 0, locals := 28 } : Room) s m #[(.ref a1), v3, v4] below meth c s₁ [] 0 0 := Stand.of_body Bd
  have e0 : s₁.heap = h0 := by rw [← hh, Bd.state]; rfl
  have N0 := Fr.nil n0
  have K0 : Keep h0 h0 [] := Keep.refl h0 _
  show Gl p.tables e below s (Q_mtc Z a1 v3 v4 v1 v2 o1 o2 o3 o4 G1 h0 n0) 0 0 _
  refine Gl.pre (B := s₁.setTop (mkF m 0 #[.val (.ref a1), .val v3, .val v4] [])) (fun _ k => castTop (ef_mtc m a1 v3 v4 so3.isRef so4.isRef) k) ?_
  refine Gl.pre (B := s₁.setTop (mkF m 1 #[.val (.ref a1), .val v3, .val v4] [(.ref a1)])) (fun _ k => XS.aloadN X0.here hx rfl (hb hby d10_0) rfl rfl k) ?_
  obtain ⟨T1, X1, e1, st1⟩ := getF X0 hx hZ hown (host := "") (Or.inl (hw _ (List.mem_of_getElem? (i := 49) rfl))) Via.refl e0 F_n (g := (mkF m 1 #[.val (.ref a1), .val v3, .val v4] [(.ref a1)])) rfl rfl (hb hby d10_1)
  refine Gl.pre (B := T1.setTop (mkF m 4 #[.val (.ref a1), .val v3, .val v4] [v1])) (fun _ k => st1 _ k) ?_
  rcases so1 with ⟨rfl, rfl⟩ | ⟨x1, t_x1, k_x1, cs_x1, rfl, rfl, S_x1⟩
  · refine Gl.pre (B := T1.setTop (mkF m 18 #[.val (.ref a1), .val v3, .val v4] [])) (fun _ k => XS.ifnullYes X1.here hx rfl (pc0 := 4) (pc' := 18) rfl (hb hby d10_4) rfl (by decide) (by decide) k) ?_
    refine Gl.pre (B := T1.setTop (mkF m 19 #[.val (.ref a1), .val v3, .val v4] [(.ref a1)])) (fun _ k => XS.aloadN X1.here hx rfl (hb hby d10_18) rfl rfl k) ?_
    obtain ⟨T2, X2, e2, st2⟩ := getF X1 hx hZ hown (host := "") (Or.inl (hw _ (List.mem_of_getElem? (i := 51) rfl))) Via.refl e1 F_l (g := (mkF m 19 #[.val (.ref a1), .val v3, .val v4] [(.ref a1)])) rfl rfl (hb hby d10_19)
    refine Gl.pre (B := T2.setTop (mkF m 22 #[.val (.ref a1), .val v3, .val v4] [v2])) (fun _ k => st2 _ k) ?_
    rcases so2 with ⟨rfl, rfl⟩ | ⟨x2, t_x2, k_x2, cs_x2, rfl, rfl, S_x2⟩
    · refine Gl.pre (B := T2.setTop (mkF m 36 #[.val (.ref a1), .val v3, .val v4] [])) (fun _ k => XS.ifnullYes X2.here hx rfl (pc0 := 22) (pc' := 36) rfl (hb hby d10_22) rfl (by decide) (by decide) k) ?_
      refine Gl.pre (B := T2.setTop (mkF m 37 #[.val (.ref a1), .val v3, .val v4] [(.int (1 : Int32))])) (fun _ k => XS.iconst X2.here hx rfl (hb hby d10_36) k) ?_
      refine Gl.pre (B := T2.setTop (mkF m 41 #[.val (.ref a1), .val v3, .val v4] [(.int (1 : Int32))])) (fun _ k => XS.goto X2.here hx rfl (pc0 := 37) (pc' := 41) rfl (hb hby d10_37) (by decide) (by decide) k) ?_
      refine Gl.out X2 (v := some (.int (1 : Int32))) (fun h => by rw [hret] at h; cases h) hlk (fun fs hr => retN X2 hx (t := .boolean) hret (by simp) (hb hby d10_41) hr) ?_ (by decide) (by decide)
      show Q_mtc Z _ _ _ _ _ _ _ _ _ _ h0 n0 _ T2.heap _
      rw [e2]
      exact ⟨by simp [mt, bI, nar], N0, rfl⟩
    · obtain ⟨E_x2, Fv_x2, Fc_x2, V_x2, hb_x2, hl_x2⟩ := S_x2
      refine Gl.pre (B := T2.setTop (mkF m 25 #[.val (.ref a1), .val v3, .val v4] [])) (fun _ k => XS.ifnullNo X2.here hx rfl (hb hby d10_22) rfl k) ?_
      refine Gl.pre (B := T2.setTop (mkF m 26 #[.val (.ref a1), .val v3, .val v4] [(.ref a1)])) (fun _ k => XS.aloadN X2.here hx rfl (hb hby d10_25) rfl rfl k) ?_
      obtain ⟨T3, X3, e3, st3⟩ := getF X2 hx hZ hown (host := "") (Or.inl (hw _ (List.mem_of_getElem? (i := 51) rfl))) Via.refl e2 F_l (g := (mkF m 26 #[.val (.ref a1), .val v3, .val v4] [(.ref a1)])) rfl rfl (hb hby d10_26)
      refine Gl.pre (B := T3.setTop (mkF m 29 #[.val (.ref a1), .val v3, .val v4] [(.ref x2)])) (fun _ k => st3 _ k) ?_
      refine Gl.pre (B := T3.setTop (mkF m 30 #[.val (.ref a1), .val v3, .val v4] [v4, (.ref x2)])) (fun _ k => XS.aloadN X3.here hx rfl (hb hby d10_29) rfl so4.isRef k) ?_
      rcases so4 with ⟨rfl, rfl⟩ | ⟨x4, t_x4, k_x4, cs_x4, rfl, rfl, S_x4⟩
      · obtain ⟨cq4, kq4, q4a, q4b, q4c⟩ := isOf hZ e3 E_x2
        obtain ⟨rv4, _, ⟨T4, L4, k4, n4⟩, -, X4, ⟨Lc4, hQ4, l4, y4, z4⟩, st4⟩ := X3.virtualBack hx (y := (⟨"java/lang/String", "equals", "(Ljava/lang/Object;)Z"⟩ : MethodName)) (z := (⟨"java/lang/String", "equals", "(Ljava/lang/Object;)Z"⟩ : MethodName)) hown (mvT hZ (hw _ (List.mem_of_getElem? (i := 58) rfl))) (mvT hZ (hw _ (List.mem_of_getElem? (i := 59) rfl))) (notFace_of_selects (args := #[]) (mvT hZ (hw _ (List.mem_of_getElem? (i := 61) rfl)))) (mvT hZ (hw _ (List.mem_of_getElem? (i := 61) rfl))) (mvT hZ (hw _ (List.mem_of_getElem? (i := 60) rfl))) (by decide) (backOf (W := 0) (eqN l Z a0 hw [] x2 h0 n0 Z0 ) hZ (hw _ (List.mem_of_getElem? (i := 62) rfl)) (hw _ (List.mem_of_getElem? (i := 6) rfl)) (by decide) (by decide)) q4a q4c (g := (mkF m 30 #[.val (.ref a1), .val v3, .val .null] [.null, (.ref x2)])) rfl (by rw [hml]; rfl) (Steps.refl _) (argsL := [.null]) (rest := []) (lenOf pd_3 rfl) rfl (by show 2 * 0 + _ ≤ _; exact Nat.le_of_eq rfl) (hb hby d10_30) (fun _ _ => ⟨rfl, e3, (by decide : 0 + 0 ≤ _), (by decide : 0 + 0 ≤ _)⟩)
        dsimp only [Pt.U, Pt.locs, Pt.cells, Pt.slots] at X4 l4 y4 z4 st4 hQ4
        subst l4 y4 z4
        obtain ⟨rfl, N4q, e4⟩ := hQ4
        have N4 := Fr.app N0 N4q
        refine Gl.pre (B := T4.setTop (mkF m 33 #[.val (.ref a1), .val v3, .val .null] [(.int (0 : Int32))])) (fun _ k => st4.trans k) ?_
        refine Gl.pre (B := T4.setTop (mkF m 40 #[.val (.ref a1), .val v3, .val .null] [])) (fun _ k => XS.ifYes X4.here hx rfl (pc0 := 33) (pc' := 40) rfl (hb hby d10_33) rfl ((if0 _ _).trans (teq (by decide : (0 : Int32) = (0 : Int32))).1) (by decide) (by decide) k) ?_
        refine Gl.pre (B := T4.setTop (mkF m 41 #[.val (.ref a1), .val v3, .val .null] [(.int (0 : Int32))])) (fun _ k => XS.iconst X4.here hx rfl (hb hby d10_40) k) ?_
        refine Gl.out X4 (v := some (.int (0 : Int32))) (fun h => by rw [hret] at h; cases h) hlk (fun fs hr => retN X4 hx (t := .boolean) hret (by simp) (hb hby d10_41) hr) ?_ (by decide) (by decide)
        show Q_mtc Z _ _ _ _ _ _ _ _ _ _ h0 n0 _ T4.heap _
        rw [e4]
        exact ⟨by simp [mt, bI, nar], N4, rfl⟩
      · obtain ⟨E_x4, Fv_x4, Fc_x4, V_x4, hb_x4, hl_x4⟩ := S_x4
        obtain ⟨cq5, kq5, q5a, q5b, q5c⟩ := isOf hZ e3 E_x2
        obtain ⟨rv5, _, ⟨T5, L5, k5, n5⟩, -, X5, ⟨Lc5, hQ5, l5, y5, z5⟩, st5⟩ := X3.virtualBack hx (y := (⟨"java/lang/String", "equals", "(Ljava/lang/Object;)Z"⟩ : MethodName)) (z := (⟨"java/lang/String", "equals", "(Ljava/lang/Object;)Z"⟩ : MethodName)) hown (mvT hZ (hw _ (List.mem_of_getElem? (i := 58) rfl))) (mvT hZ (hw _ (List.mem_of_getElem? (i := 59) rfl))) (notFace_of_selects (args := #[]) (mvT hZ (hw _ (List.mem_of_getElem? (i := 61) rfl)))) (mvT hZ (hw _ (List.mem_of_getElem? (i := 61) rfl))) (mvT hZ (hw _ (List.mem_of_getElem? (i := 60) rfl))) (by decide) (StrChars.Road.eqW (W := 0) hZ (eq_words hw) (kI := 4) (hw _ (List.mem_of_getElem? (i := 5) rfl)) E_x2 Fv_x2 Fc_x2 V_x2 (StrChars.Road.codOf rfl (fun c hc => (hb_x2 c hc).2)) (up255 hb_x2) hl_x2 E_x4 Fv_x4 Fc_x4 V_x4 (StrChars.Road.codOf rfl (fun c hc => (hb_x4 c hc).2)) (up255 hb_x4) hl_x4 (O2.ext Od.2) P5 (by decide) (by decide)) q5a q5c (g := (mkF m 30 #[.val (.ref a1), .val v3, .val (.ref x4)] [(.ref x4), (.ref x2)])) rfl (by rw [hml]; rfl) (Steps.refl _) (argsL := [(.ref x4)]) (rest := []) (lenOf pd_3 rfl) rfl (by show 2 * 0 + _ ≤ _; exact Nat.le_of_eq rfl) (hb hby d10_30) (fun _ _ => ⟨rfl, e3, (by decide : 0 + 0 ≤ _), (by decide : 0 + 0 ≤ _)⟩)
        dsimp only [Pt.U, Pt.locs, Pt.cells, Pt.slots] at X5 l5 y5 z5 st5 hQ5
        subst l5 y5 z5
        obtain ⟨hv5, rfl, e5⟩ := hQ5
        have N5q : Fr n0 [] := Fr.nil n0
        obtain rfl : rv5 = some (.int (bI (decide (cs_x2 = cs_x4)))) := by rcases hv5 with ⟨q1, q2⟩ | ⟨q1, q2⟩ <;> simp [bI, q1, q2]
        have N5 := Fr.app N0 N5q
        refine Gl.pre (B := T5.setTop (mkF m 33 #[.val (.ref a1), .val v3, .val (.ref x4)] [(.int (bI (decide (cs_x2 = cs_x4))))])) (fun _ k => st5.trans k) ?_
        rcases Bool.eq_false_or_eq_true (decide (cs_x2 = cs_x4)) with hc33_6 | hc33_6
        · refine Gl.pre (B := T5.setTop (mkF m 36 #[.val (.ref a1), .val v3, .val (.ref x4)] [])) (fun _ k => XS.ifNo X5.here hx rfl (hb hby d10_33) rfl ((if0 _ _).trans (feq (bI_t hc33_6)).1) k) ?_
          refine Gl.pre (B := T5.setTop (mkF m 37 #[.val (.ref a1), .val v3, .val (.ref x4)] [(.int (1 : Int32))])) (fun _ k => XS.iconst X5.here hx rfl (hb hby d10_36) k) ?_
          refine Gl.pre (B := T5.setTop (mkF m 41 #[.val (.ref a1), .val v3, .val (.ref x4)] [(.int (1 : Int32))])) (fun _ k => XS.goto X5.here hx rfl (pc0 := 37) (pc' := 41) rfl (hb hby d10_37) (by decide) (by decide) k) ?_
          refine Gl.out X5 (v := some (.int (1 : Int32))) (fun h => by rw [hret] at h; cases h) hlk (fun fs hr => retN X5 hx (t := .boolean) hret (by simp) (hb hby d10_41) hr) ?_ (by decide) (by decide)
          show Q_mtc Z _ _ _ _ _ _ _ _ _ _ h0 n0 _ T5.heap _
          rw [e5]
          exact ⟨by simp [mt, bI, nar, hc33_6], N5, rfl⟩
        · refine Gl.pre (B := T5.setTop (mkF m 40 #[.val (.ref a1), .val v3, .val (.ref x4)] [])) (fun _ k => XS.ifYes X5.here hx rfl (pc0 := 33) (pc' := 40) rfl (hb hby d10_33) rfl ((if0 _ _).trans (teq (bI_f hc33_6)).1) (by decide) (by decide) k) ?_
          refine Gl.pre (B := T5.setTop (mkF m 41 #[.val (.ref a1), .val v3, .val (.ref x4)] [(.int (0 : Int32))])) (fun _ k => XS.iconst X5.here hx rfl (hb hby d10_40) k) ?_
          refine Gl.out X5 (v := some (.int (0 : Int32))) (fun h => by rw [hret] at h; cases h) hlk (fun fs hr => retN X5 hx (t := .boolean) hret (by simp) (hb hby d10_41) hr) ?_ (by decide) (by decide)
          show Q_mtc Z _ _ _ _ _ _ _ _ _ _ h0 n0 _ T5.heap _
          rw [e5]
          exact ⟨by simp [mt, bI, nar, hc33_6], N5, rfl⟩
  · obtain ⟨E_x1, Fv_x1, Fc_x1, V_x1, hb_x1, hl_x1⟩ := S_x1
    refine Gl.pre (B := T1.setTop (mkF m 7 #[.val (.ref a1), .val v3, .val v4] [])) (fun _ k => XS.ifnullNo X1.here hx rfl (hb hby d10_4) rfl k) ?_
    refine Gl.pre (B := T1.setTop (mkF m 8 #[.val (.ref a1), .val v3, .val v4] [(.ref a1)])) (fun _ k => XS.aloadN X1.here hx rfl (hb hby d10_7) rfl rfl k) ?_
    obtain ⟨T7, X7, e7, st7⟩ := getF X1 hx hZ hown (host := "") (Or.inl (hw _ (List.mem_of_getElem? (i := 49) rfl))) Via.refl e1 F_n (g := (mkF m 8 #[.val (.ref a1), .val v3, .val v4] [(.ref a1)])) rfl rfl (hb hby d10_8)
    refine Gl.pre (B := T7.setTop (mkF m 11 #[.val (.ref a1), .val v3, .val v4] [(.ref x1)])) (fun _ k => st7 _ k) ?_
    refine Gl.pre (B := T7.setTop (mkF m 12 #[.val (.ref a1), .val v3, .val v4] [v3, (.ref x1)])) (fun _ k => XS.aloadN X7.here hx rfl (hb hby d10_11) rfl so3.isRef k) ?_
    rcases so3 with ⟨rfl, rfl⟩ | ⟨x3, t_x3, k_x3, cs_x3, rfl, rfl, S_x3⟩
    · obtain ⟨cq8, kq8, q8a, q8b, q8c⟩ := isOf hZ e7 E_x1
      obtain ⟨rv8, _, ⟨T8, L8, k8, n8⟩, -, X8, ⟨Lc8, hQ8, l8, y8, z8⟩, st8⟩ := X7.virtualBack hx (y := (⟨"java/lang/String", "equals", "(Ljava/lang/Object;)Z"⟩ : MethodName)) (z := (⟨"java/lang/String", "equals", "(Ljava/lang/Object;)Z"⟩ : MethodName)) hown (mvT hZ (hw _ (List.mem_of_getElem? (i := 58) rfl))) (mvT hZ (hw _ (List.mem_of_getElem? (i := 59) rfl))) (notFace_of_selects (args := #[]) (mvT hZ (hw _ (List.mem_of_getElem? (i := 61) rfl)))) (mvT hZ (hw _ (List.mem_of_getElem? (i := 61) rfl))) (mvT hZ (hw _ (List.mem_of_getElem? (i := 60) rfl))) (by decide) (backOf (W := 0) (eqN l Z a0 hw [] x1 h0 n0 Z0 ) hZ (hw _ (List.mem_of_getElem? (i := 62) rfl)) (hw _ (List.mem_of_getElem? (i := 6) rfl)) (by decide) (by decide)) q8a q8c (g := (mkF m 12 #[.val (.ref a1), .val .null, .val v4] [.null, (.ref x1)])) rfl (by rw [hml]; rfl) (Steps.refl _) (argsL := [.null]) (rest := []) (lenOf pd_3 rfl) rfl (by show 2 * 0 + _ ≤ _; exact Nat.le_of_eq rfl) (hb hby d10_12) (fun _ _ => ⟨rfl, e7, (by decide : 0 + 0 ≤ _), (by decide : 0 + 0 ≤ _)⟩)
      dsimp only [Pt.U, Pt.locs, Pt.cells, Pt.slots] at X8 l8 y8 z8 st8 hQ8
      subst l8 y8 z8
      obtain ⟨rfl, N8q, e8⟩ := hQ8
      have N8 := Fr.app N0 N8q
      refine Gl.pre (B := T8.setTop (mkF m 15 #[.val (.ref a1), .val .null, .val v4] [(.int (0 : Int32))])) (fun _ k => st8.trans k) ?_
      refine Gl.pre (B := T8.setTop (mkF m 40 #[.val (.ref a1), .val .null, .val v4] [])) (fun _ k => XS.ifYes X8.here hx rfl (pc0 := 15) (pc' := 40) rfl (hb hby d10_15) rfl ((if0 _ _).trans (teq (by decide : (0 : Int32) = (0 : Int32))).1) (by decide) (by decide) k) ?_
      refine Gl.pre (B := T8.setTop (mkF m 41 #[.val (.ref a1), .val .null, .val v4] [(.int (0 : Int32))])) (fun _ k => XS.iconst X8.here hx rfl (hb hby d10_40) k) ?_
      refine Gl.out X8 (v := some (.int (0 : Int32))) (fun h => by rw [hret] at h; cases h) hlk (fun fs hr => retN X8 hx (t := .boolean) hret (by simp) (hb hby d10_41) hr) ?_ (by decide) (by decide)
      show Q_mtc Z _ _ _ _ _ _ _ _ _ _ h0 n0 _ T8.heap _
      rw [e8]
      exact ⟨by simp [mt, bI, nar], N8, rfl⟩
    · obtain ⟨E_x3, Fv_x3, Fc_x3, V_x3, hb_x3, hl_x3⟩ := S_x3
      obtain ⟨cq9, kq9, q9a, q9b, q9c⟩ := isOf hZ e7 E_x1
      obtain ⟨rv9, _, ⟨T9, L9, k9, n9⟩, -, X9, ⟨Lc9, hQ9, l9, y9, z9⟩, st9⟩ := X7.virtualBack hx (y := (⟨"java/lang/String", "equals", "(Ljava/lang/Object;)Z"⟩ : MethodName)) (z := (⟨"java/lang/String", "equals", "(Ljava/lang/Object;)Z"⟩ : MethodName)) hown (mvT hZ (hw _ (List.mem_of_getElem? (i := 58) rfl))) (mvT hZ (hw _ (List.mem_of_getElem? (i := 59) rfl))) (notFace_of_selects (args := #[]) (mvT hZ (hw _ (List.mem_of_getElem? (i := 61) rfl)))) (mvT hZ (hw _ (List.mem_of_getElem? (i := 61) rfl))) (mvT hZ (hw _ (List.mem_of_getElem? (i := 60) rfl))) (by decide) (StrChars.Road.eqW (W := 0) hZ (eq_words hw) (kI := 4) (hw _ (List.mem_of_getElem? (i := 5) rfl)) E_x1 Fv_x1 Fc_x1 V_x1 (StrChars.Road.codOf rfl (fun c hc => (hb_x1 c hc).2)) (up255 hb_x1) hl_x1 E_x3 Fv_x3 Fc_x3 V_x3 (StrChars.Road.codOf rfl (fun c hc => (hb_x3 c hc).2)) (up255 hb_x3) hl_x3 (O2.ext Od.2) P5 (by decide) (by decide)) q9a q9c (g := (mkF m 12 #[.val (.ref a1), .val (.ref x3), .val v4] [(.ref x3), (.ref x1)])) rfl (by rw [hml]; rfl) (Steps.refl _) (argsL := [(.ref x3)]) (rest := []) (lenOf pd_3 rfl) rfl (by show 2 * 0 + _ ≤ _; exact Nat.le_of_eq rfl) (hb hby d10_12) (fun _ _ => ⟨rfl, e7, (by decide : 0 + 0 ≤ _), (by decide : 0 + 0 ≤ _)⟩)
      dsimp only [Pt.U, Pt.locs, Pt.cells, Pt.slots] at X9 l9 y9 z9 st9 hQ9
      subst l9 y9 z9
      obtain ⟨hv9, rfl, e9⟩ := hQ9
      have N9q : Fr n0 [] := Fr.nil n0
      obtain rfl : rv9 = some (.int (bI (decide (cs_x1 = cs_x3)))) := by rcases hv9 with ⟨q1, q2⟩ | ⟨q1, q2⟩ <;> simp [bI, q1, q2]
      have N9 := Fr.app N0 N9q
      refine Gl.pre (B := T9.setTop (mkF m 15 #[.val (.ref a1), .val (.ref x3), .val v4] [(.int (bI (decide (cs_x1 = cs_x3))))])) (fun _ k => st9.trans k) ?_
      rcases Bool.eq_false_or_eq_true (decide (cs_x1 = cs_x3)) with hc15_10 | hc15_10
      · refine Gl.pre (B := T9.setTop (mkF m 18 #[.val (.ref a1), .val (.ref x3), .val v4] [])) (fun _ k => XS.ifNo X9.here hx rfl (hb hby d10_15) rfl ((if0 _ _).trans (feq (bI_t hc15_10)).1) k) ?_
        refine Gl.pre (B := T9.setTop (mkF m 19 #[.val (.ref a1), .val (.ref x3), .val v4] [(.ref a1)])) (fun _ k => XS.aloadN X9.here hx rfl (hb hby d10_18) rfl rfl k) ?_
        obtain ⟨T11, X11, e11, st11⟩ := getF X9 hx hZ hown (host := "") (Or.inl (hw _ (List.mem_of_getElem? (i := 51) rfl))) Via.refl e9 F_l (g := (mkF m 19 #[.val (.ref a1), .val (.ref x3), .val v4] [(.ref a1)])) rfl rfl (hb hby d10_19)
        refine Gl.pre (B := T11.setTop (mkF m 22 #[.val (.ref a1), .val (.ref x3), .val v4] [v2])) (fun _ k => st11 _ k) ?_
        rcases so2 with ⟨rfl, rfl⟩ | ⟨x2, t_x2, k_x2, cs_x2, rfl, rfl, S_x2⟩
        · refine Gl.pre (B := T11.setTop (mkF m 36 #[.val (.ref a1), .val (.ref x3), .val v4] [])) (fun _ k => XS.ifnullYes X11.here hx rfl (pc0 := 22) (pc' := 36) rfl (hb hby d10_22) rfl (by decide) (by decide) k) ?_
          refine Gl.pre (B := T11.setTop (mkF m 37 #[.val (.ref a1), .val (.ref x3), .val v4] [(.int (1 : Int32))])) (fun _ k => XS.iconst X11.here hx rfl (hb hby d10_36) k) ?_
          refine Gl.pre (B := T11.setTop (mkF m 41 #[.val (.ref a1), .val (.ref x3), .val v4] [(.int (1 : Int32))])) (fun _ k => XS.goto X11.here hx rfl (pc0 := 37) (pc' := 41) rfl (hb hby d10_37) (by decide) (by decide) k) ?_
          refine Gl.out X11 (v := some (.int (1 : Int32))) (fun h => by rw [hret] at h; cases h) hlk (fun fs hr => retN X11 hx (t := .boolean) hret (by simp) (hb hby d10_41) hr) ?_ (by decide) (by decide)
          show Q_mtc Z _ _ _ _ _ _ _ _ _ _ h0 n0 _ T11.heap _
          rw [e11]
          exact ⟨by simp [mt, bI, nar, hc15_10], N9, rfl⟩
        · obtain ⟨E_x2, Fv_x2, Fc_x2, V_x2, hb_x2, hl_x2⟩ := S_x2
          refine Gl.pre (B := T11.setTop (mkF m 25 #[.val (.ref a1), .val (.ref x3), .val v4] [])) (fun _ k => XS.ifnullNo X11.here hx rfl (hb hby d10_22) rfl k) ?_
          refine Gl.pre (B := T11.setTop (mkF m 26 #[.val (.ref a1), .val (.ref x3), .val v4] [(.ref a1)])) (fun _ k => XS.aloadN X11.here hx rfl (hb hby d10_25) rfl rfl k) ?_
          obtain ⟨T12, X12, e12, st12⟩ := getF X11 hx hZ hown (host := "") (Or.inl (hw _ (List.mem_of_getElem? (i := 51) rfl))) Via.refl e11 F_l (g := (mkF m 26 #[.val (.ref a1), .val (.ref x3), .val v4] [(.ref a1)])) rfl rfl (hb hby d10_26)
          refine Gl.pre (B := T12.setTop (mkF m 29 #[.val (.ref a1), .val (.ref x3), .val v4] [(.ref x2)])) (fun _ k => st12 _ k) ?_
          refine Gl.pre (B := T12.setTop (mkF m 30 #[.val (.ref a1), .val (.ref x3), .val v4] [v4, (.ref x2)])) (fun _ k => XS.aloadN X12.here hx rfl (hb hby d10_29) rfl so4.isRef k) ?_
          rcases so4 with ⟨rfl, rfl⟩ | ⟨x4, t_x4, k_x4, cs_x4, rfl, rfl, S_x4⟩
          · obtain ⟨cq13, kq13, q13a, q13b, q13c⟩ := isOf hZ e12 E_x2
            obtain ⟨rv13, _, ⟨T13, L13, k13, n13⟩, -, X13, ⟨Lc13, hQ13, l13, y13, z13⟩, st13⟩ := X12.virtualBack hx (y := (⟨"java/lang/String", "equals", "(Ljava/lang/Object;)Z"⟩ : MethodName)) (z := (⟨"java/lang/String", "equals", "(Ljava/lang/Object;)Z"⟩ : MethodName)) hown (mvT hZ (hw _ (List.mem_of_getElem? (i := 58) rfl))) (mvT hZ (hw _ (List.mem_of_getElem? (i := 59) rfl))) (notFace_of_selects (args := #[]) (mvT hZ (hw _ (List.mem_of_getElem? (i := 61) rfl)))) (mvT hZ (hw _ (List.mem_of_getElem? (i := 61) rfl))) (mvT hZ (hw _ (List.mem_of_getElem? (i := 60) rfl))) (by decide) (backOf (W := 0) (eqN l Z a0 hw [] x2 h0 n0 Z0 ) hZ (hw _ (List.mem_of_getElem? (i := 62) rfl)) (hw _ (List.mem_of_getElem? (i := 6) rfl)) (by decide) (by decide)) q13a q13c (g := (mkF m 30 #[.val (.ref a1), .val (.ref x3), .val .null] [.null, (.ref x2)])) rfl (by rw [hml]; rfl) (Steps.refl _) (argsL := [.null]) (rest := []) (lenOf pd_3 rfl) rfl (by show 2 * 0 + _ ≤ _; exact Nat.le_of_eq rfl) (hb hby d10_30) (fun _ _ => ⟨rfl, e12, (by decide : 0 + 0 ≤ _), (by decide : 0 + 0 ≤ _)⟩)
            dsimp only [Pt.U, Pt.locs, Pt.cells, Pt.slots] at X13 l13 y13 z13 st13 hQ13
            subst l13 y13 z13
            obtain ⟨rfl, N13q, e13⟩ := hQ13
            have N13 := Fr.app N9 N13q
            refine Gl.pre (B := T13.setTop (mkF m 33 #[.val (.ref a1), .val (.ref x3), .val .null] [(.int (0 : Int32))])) (fun _ k => st13.trans k) ?_
            refine Gl.pre (B := T13.setTop (mkF m 40 #[.val (.ref a1), .val (.ref x3), .val .null] [])) (fun _ k => XS.ifYes X13.here hx rfl (pc0 := 33) (pc' := 40) rfl (hb hby d10_33) rfl ((if0 _ _).trans (teq (by decide : (0 : Int32) = (0 : Int32))).1) (by decide) (by decide) k) ?_
            refine Gl.pre (B := T13.setTop (mkF m 41 #[.val (.ref a1), .val (.ref x3), .val .null] [(.int (0 : Int32))])) (fun _ k => XS.iconst X13.here hx rfl (hb hby d10_40) k) ?_
            refine Gl.out X13 (v := some (.int (0 : Int32))) (fun h => by rw [hret] at h; cases h) hlk (fun fs hr => retN X13 hx (t := .boolean) hret (by simp) (hb hby d10_41) hr) ?_ (by decide) (by decide)
            show Q_mtc Z _ _ _ _ _ _ _ _ _ _ h0 n0 _ T13.heap _
            rw [e13]
            exact ⟨by simp [mt, bI, nar, hc15_10], N13, rfl⟩
          · obtain ⟨E_x4, Fv_x4, Fc_x4, V_x4, hb_x4, hl_x4⟩ := S_x4
            obtain ⟨cq14, kq14, q14a, q14b, q14c⟩ := isOf hZ e12 E_x2
            obtain ⟨rv14, _, ⟨T14, L14, k14, n14⟩, -, X14, ⟨Lc14, hQ14, l14, y14, z14⟩, st14⟩ := X12.virtualBack hx (y := (⟨"java/lang/String", "equals", "(Ljava/lang/Object;)Z"⟩ : MethodName)) (z := (⟨"java/lang/String", "equals", "(Ljava/lang/Object;)Z"⟩ : MethodName)) hown (mvT hZ (hw _ (List.mem_of_getElem? (i := 58) rfl))) (mvT hZ (hw _ (List.mem_of_getElem? (i := 59) rfl))) (notFace_of_selects (args := #[]) (mvT hZ (hw _ (List.mem_of_getElem? (i := 61) rfl)))) (mvT hZ (hw _ (List.mem_of_getElem? (i := 61) rfl))) (mvT hZ (hw _ (List.mem_of_getElem? (i := 60) rfl))) (by decide) (StrChars.Road.eqW (W := 0) hZ (eq_words hw) (kI := 4) (hw _ (List.mem_of_getElem? (i := 5) rfl)) E_x2 Fv_x2 Fc_x2 V_x2 (StrChars.Road.codOf rfl (fun c hc => (hb_x2 c hc).2)) (up255 hb_x2) hl_x2 E_x4 Fv_x4 Fc_x4 V_x4 (StrChars.Road.codOf rfl (fun c hc => (hb_x4 c hc).2)) (up255 hb_x4) hl_x4 (O2.ext Od.2) P5 (by decide) (by decide)) q14a q14c (g := (mkF m 30 #[.val (.ref a1), .val (.ref x3), .val (.ref x4)] [(.ref x4), (.ref x2)])) rfl (by rw [hml]; rfl) (Steps.refl _) (argsL := [(.ref x4)]) (rest := []) (lenOf pd_3 rfl) rfl (by show 2 * 0 + _ ≤ _; exact Nat.le_of_eq rfl) (hb hby d10_30) (fun _ _ => ⟨rfl, e12, (by decide : 0 + 0 ≤ _), (by decide : 0 + 0 ≤ _)⟩)
            dsimp only [Pt.U, Pt.locs, Pt.cells, Pt.slots] at X14 l14 y14 z14 st14 hQ14
            subst l14 y14 z14
            obtain ⟨hv14, rfl, e14⟩ := hQ14
            have N14q : Fr n0 [] := Fr.nil n0
            obtain rfl : rv14 = some (.int (bI (decide (cs_x2 = cs_x4)))) := by rcases hv14 with ⟨q1, q2⟩ | ⟨q1, q2⟩ <;> simp [bI, q1, q2]
            have N14 := Fr.app N9 N14q
            refine Gl.pre (B := T14.setTop (mkF m 33 #[.val (.ref a1), .val (.ref x3), .val (.ref x4)] [(.int (bI (decide (cs_x2 = cs_x4))))])) (fun _ k => st14.trans k) ?_
            rcases Bool.eq_false_or_eq_true (decide (cs_x2 = cs_x4)) with hc33_15 | hc33_15
            · refine Gl.pre (B := T14.setTop (mkF m 36 #[.val (.ref a1), .val (.ref x3), .val (.ref x4)] [])) (fun _ k => XS.ifNo X14.here hx rfl (hb hby d10_33) rfl ((if0 _ _).trans (feq (bI_t hc33_15)).1) k) ?_
              refine Gl.pre (B := T14.setTop (mkF m 37 #[.val (.ref a1), .val (.ref x3), .val (.ref x4)] [(.int (1 : Int32))])) (fun _ k => XS.iconst X14.here hx rfl (hb hby d10_36) k) ?_
              refine Gl.pre (B := T14.setTop (mkF m 41 #[.val (.ref a1), .val (.ref x3), .val (.ref x4)] [(.int (1 : Int32))])) (fun _ k => XS.goto X14.here hx rfl (pc0 := 37) (pc' := 41) rfl (hb hby d10_37) (by decide) (by decide) k) ?_
              refine Gl.out X14 (v := some (.int (1 : Int32))) (fun h => by rw [hret] at h; cases h) hlk (fun fs hr => retN X14 hx (t := .boolean) hret (by simp) (hb hby d10_41) hr) ?_ (by decide) (by decide)
              show Q_mtc Z _ _ _ _ _ _ _ _ _ _ h0 n0 _ T14.heap _
              rw [e14]
              exact ⟨by simp [mt, bI, nar, hc15_10, hc33_15], N14, rfl⟩
            · refine Gl.pre (B := T14.setTop (mkF m 40 #[.val (.ref a1), .val (.ref x3), .val (.ref x4)] [])) (fun _ k => XS.ifYes X14.here hx rfl (pc0 := 33) (pc' := 40) rfl (hb hby d10_33) rfl ((if0 _ _).trans (teq (bI_f hc33_15)).1) (by decide) (by decide) k) ?_
              refine Gl.pre (B := T14.setTop (mkF m 41 #[.val (.ref a1), .val (.ref x3), .val (.ref x4)] [(.int (0 : Int32))])) (fun _ k => XS.iconst X14.here hx rfl (hb hby d10_40) k) ?_
              refine Gl.out X14 (v := some (.int (0 : Int32))) (fun h => by rw [hret] at h; cases h) hlk (fun fs hr => retN X14 hx (t := .boolean) hret (by simp) (hb hby d10_41) hr) ?_ (by decide) (by decide)
              show Q_mtc Z _ _ _ _ _ _ _ _ _ _ h0 n0 _ T14.heap _
              rw [e14]
              exact ⟨by simp [mt, bI, nar, hc15_10, hc33_15], N14, rfl⟩
      · refine Gl.pre (B := T9.setTop (mkF m 40 #[.val (.ref a1), .val (.ref x3), .val v4] [])) (fun _ k => XS.ifYes X9.here hx rfl (pc0 := 15) (pc' := 40) rfl (hb hby d10_15) rfl ((if0 _ _).trans (teq (bI_f hc15_10)).1) (by decide) (by decide) k) ?_
        refine Gl.pre (B := T9.setTop (mkF m 41 #[.val (.ref a1), .val (.ref x3), .val v4] [(.int (0 : Int32))])) (fun _ k => XS.iconst X9.here hx rfl (hb hby d10_40) k) ?_
        refine Gl.out X9 (v := some (.int (0 : Int32))) (fun h => by rw [hret] at h; cases h) hlk (fun fs hr => retN X9 hx (t := .boolean) hret (by simp) (hb hby d10_41) hr) ?_ (by decide) (by decide)
        show Q_mtc Z _ _ _ _ _ _ _ _ _ _ h0 n0 _ T9.heap _
        rw [e9]
        exact ⟨by simp [mt, bI, nar, hc15_10], N9, rfl⟩
theorem d13_0 : decode method_4_code 0 = .ok (.iload_n 3, 1) := by decide +kernel
theorem d13_1 : decode method_4_code 1 = .ok (.iconst 3, 1) := by decide +kernel
theorem d13_2 : decode method_4_code 2 = .ok (.if_icmp .ne 5, 3) := by decide +kernel
theorem d13_5 : decode method_4_code 5 = .ok (.iconst 0, 1) := by decide +kernel
theorem d13_6 : decode method_4_code 6 = .ok (.ireturn, 1) := by decide +kernel
theorem d13_7 : decode method_4_code 7 = .ok (.iload_n 0, 1) := by decide +kernel
theorem d13_8 : decode method_4_code 8 = .ok (.iload_n 3, 1) := by decide +kernel
theorem d13_9 : decode method_4_code 9 = .ok (.if_icmp .eq 5, 3) := by decide +kernel
theorem d13_14 : decode method_4_code 14 = .ok (.iload_n 0, 1) := by decide +kernel
theorem d13_15 : decode method_4_code 15 = .ok (.ifCond .ne 5, 3) := by decide +kernel
theorem d13_18 : decode method_4_code 18 = .ok (.iconst 1, 1) := by decide +kernel
theorem d13_19 : decode method_4_code 19 = .ok (.ireturn, 1) := by decide +kernel
theorem d13_20 : decode method_4_code 20 = .ok (.iload_n 0, 1) := by decide +kernel
theorem d13_21 : decode method_4_code 21 = .ok (.iconst 1, 1) := by decide +kernel
theorem d13_22 : decode method_4_code 22 = .ok (.if_icmp .ne 15, 3) := by decide +kernel
theorem d13_25 : decode method_4_code 25 = .ok (.iload_n 1, 1) := by decide +kernel
theorem d13_26 : decode method_4_code 26 = .ok (.iload 4, 2) := by decide +kernel
theorem d13_28 : decode method_4_code 28 = .ok (.if_icmp .ne 7, 3) := by decide +kernel
theorem d13_31 : decode method_4_code 31 = .ok (.iconst 1, 1) := by decide +kernel
theorem d13_32 : decode method_4_code 32 = .ok (.goto 4, 3) := by decide +kernel
theorem d13_36 : decode method_4_code 36 = .ok (.ireturn, 1) := by decide +kernel
theorem d13_35 : decode method_4_code 35 = .ok (.iconst 0, 1) := by decide +kernel
theorem d13_37 : decode method_4_code 37 = .ok (.iload_n 1, 1) := by decide +kernel
theorem d13_38 : decode method_4_code 38 = .ok (.iload 4, 2) := by decide +kernel
theorem d13_40 : decode method_4_code 40 = .ok (.if_icmp .ne 13, 3) := by decide +kernel
theorem d13_43 : decode method_4_code 43 = .ok (.iload_n 2, 1) := by decide +kernel
theorem d13_44 : decode method_4_code 44 = .ok (.iload 5, 2) := by decide +kernel
theorem d13_46 : decode method_4_code 46 = .ok (.if_icmp .ne 7, 3) := by decide +kernel
theorem d13_49 : decode method_4_code 49 = .ok (.iconst 1, 1) := by decide +kernel
theorem d13_50 : decode method_4_code 50 = .ok (.goto 4, 3) := by decide +kernel
theorem d13_54 : decode method_4_code 54 = .ok (.ireturn, 1) := by decide +kernel
theorem d13_53 : decode method_4_code 53 = .ok (.iconst 0, 1) := by decide +kernel
theorem d13_12 : decode method_4_code 12 = .ok (.iconst 0, 1) := by decide +kernel
theorem d13_13 : decode method_4_code 13 = .ok (.ireturn, 1) := by decide +kernel
theorem ef_sme (m : MethodId) (x0 : Int32) (x1 : Int32) (x2 : Int32) (x3 : Int32) (x4 : Int32) (x5 : Int32) : entryFrame m #[(.int x0), (.int x1), (.int x2), (.int x3), (.int x4), (.int x5)] 6 = mkF m 0 #[.val (.int x0), .val (.int x1), .val (.int x2), .val (.int x3), .val (.int x4), .val (.int x5)] [] := by first | (simp [entryFrame, mkF, argsToLocals, Value.category]; done) | rfl
def Q_sme (Z : State) (p1 : Int32) (p2 : Int32) (p3 : Int32) (p4 : Int32) (p5 : Int32) (p6 : Int32) (h0 : Heap) (n0 : Nat) (v : Option Value) (h : Heap) (L : List Loc) : Prop := v = some (.int (bI (sm p1 p2 p3 p4 p5 p6))) ∧ Fr n0 L ∧ (h = h0)
set_option maxRecDepth 65536 in
set_option maxHeartbeats 40000000 in
theorem sme (l : Launch) (Z : State) (a0 : Array Value) (hw : ∀ d ∈ tables_1, d.before a0 Z = true) (ws : List Jvm.Cond) (p1 : Int32) (p2 : Int32) (p3 : Int32) (p4 : Int32) (p5 : Int32) (p6 : Int32) (h0 : Heap) (n0 : Nat) (Z0 : n0 ≤ h0.size)  :
    MetFree l (⟨"com/example/tranquility/tranquility/NameTestMatchesPinLaw", "same", "(ICCICC)Z"⟩ : MethodName) (head1 (Jvm.Cond.code (⟨"com/example/tranquility/tranquility/NameTestMatchesPinLaw", "same", "(ICCICC)Z"⟩ : MethodName) method_4_code 6 (some .boolean) :: ws) ({ frames := 0, cells := 0, slots := 0, locals := 0 } : Room)) (fun a U => a = #[(.int p1), (.int p2), (.int p3), (.int p4), (.int p5), (.int p6)] ∧ Z.Warmed39 U.vm ∧ U.heap = h0) (fun _ _ _ _ _ => True) (fun _ U o U' => ∃ v L, o = .returned v ∧ Q_sme Z p1 p2 p3 p4 p5 p6 h0 n0 v U'.heap L ∧ FrameEnd U o U' L ({ frames := 0, cells := 0, slots := 0, locals := 0 } : Room).cells ({ frames := 0, cells := 0, slots := 0, locals := 0 } : Room).slots) := by
  refine MetFree.of_bodySF (plainFor_of_name pn_com_example_tranquility_tranquility_NameTestMatchesPinLaw) hisR ?_
  intro p e s m args below meth c s₁ Bd hml0 hP hK
  obtain ⟨rfl, hZ, hh⟩ := hP
  have hx := Bd.exec
  have hby := Bd.bytes
  have hml : c.maxLocals = 6 := hml0
  have hown : s.vm.findClass "com/example/tranquility/tranquility/NameTestMatchesPinLaw" = some m.cls := findClass_of_methodNamed Bd.named
  have hnm := (name_of_methodNamed Bd.named Bd.method).1
  have hret : meth.sig.returnType = (some .boolean) := Bd.returns
  have hlk : meth.locks = false := BodyLoose.notSynchronized Bd
  have X0 : Stand p l e ({ frames := 0, cells := 0, slots := 0, locals := 0 } : Room) s m #[(.int p1), (.int p2), (.int p3), (.int p4), (.int p5), (.int p6)] below meth c s₁ [] 0 0 := Stand.of_body Bd
  have e0 : s₁.heap = h0 := by rw [← hh, Bd.state]; rfl
  have N0 := Fr.nil n0
  have K0 : Keep h0 h0 [] := Keep.refl h0 _
  show Gl p.tables e below s (Q_sme Z p1 p2 p3 p4 p5 p6 h0 n0) 0 0 _
  refine Gl.pre (B := s₁.setTop (mkF m 0 #[.val (.int p1), .val (.int p2), .val (.int p3), .val (.int p4), .val (.int p5), .val (.int p6)] [])) (fun _ k => castTop (ef_sme m p1 p2 p3 p4 p5 p6) k) ?_
  refine Gl.pre (B := s₁.setTop (mkF m 1 #[.val (.int p1), .val (.int p2), .val (.int p3), .val (.int p4), .val (.int p5), .val (.int p6)] [(.int p4)])) (fun _ k => XS.iloadN X0.here hx rfl (hb hby d13_0) rfl k) ?_
  refine Gl.pre (B := s₁.setTop (mkF m 2 #[.val (.int p1), .val (.int p2), .val (.int p3), .val (.int p4), .val (.int p5), .val (.int p6)] [(.int (3 : Int32)), (.int p4)])) (fun _ k => XS.iconst X0.here hx rfl (hb hby d13_1) k) ?_
  by_cases hc2_1 : p4 = (3 : Int32)
  · refine Gl.pre (B := s₁.setTop (mkF m 5 #[.val (.int p1), .val (.int p2), .val (.int p3), .val (.int p4), .val (.int p5), .val (.int p6)] [])) (fun _ k => XS.icmpNo X0.here hx rfl (hb hby d13_2) rfl (teq hc2_1).2 k) ?_
    refine Gl.pre (B := s₁.setTop (mkF m 6 #[.val (.int p1), .val (.int p2), .val (.int p3), .val (.int p4), .val (.int p5), .val (.int p6)] [(.int (0 : Int32))])) (fun _ k => XS.iconst X0.here hx rfl (hb hby d13_5) k) ?_
    refine Gl.out X0 (v := some (.int (0 : Int32))) (fun h => by rw [hret] at h; cases h) hlk (fun fs hr => retN X0 hx (t := .boolean) hret (by simp) (hb hby d13_6) hr) ?_ (by decide) (by decide)
    show Q_sme Z _ _ _ _ _ _ h0 n0 _ s₁.heap _
    rw [e0]
    exact ⟨by simp [sm, bI, hc2_1], N0, rfl⟩
  · refine Gl.pre (B := s₁.setTop (mkF m 7 #[.val (.int p1), .val (.int p2), .val (.int p3), .val (.int p4), .val (.int p5), .val (.int p6)] [])) (fun _ k => XS.icmpYes X0.here hx rfl (pc0 := 2) (pc' := 7) rfl (hb hby d13_2) rfl (feq hc2_1).2 (by decide) (by decide) k) ?_
    refine Gl.pre (B := s₁.setTop (mkF m 8 #[.val (.int p1), .val (.int p2), .val (.int p3), .val (.int p4), .val (.int p5), .val (.int p6)] [(.int p1)])) (fun _ k => XS.iloadN X0.here hx rfl (hb hby d13_7) rfl k) ?_
    refine Gl.pre (B := s₁.setTop (mkF m 9 #[.val (.int p1), .val (.int p2), .val (.int p3), .val (.int p4), .val (.int p5), .val (.int p6)] [(.int p4), (.int p1)])) (fun _ k => XS.iloadN X0.here hx rfl (hb hby d13_8) rfl k) ?_
    by_cases hc9_2 : p1 = p4
    · refine Gl.pre (B := s₁.setTop (mkF m 14 #[.val (.int p1), .val (.int p2), .val (.int p3), .val (.int p4), .val (.int p5), .val (.int p6)] [])) (fun _ k => XS.icmpYes X0.here hx rfl (pc0 := 9) (pc' := 14) rfl (hb hby d13_9) rfl (teq hc9_2).1 (by decide) (by decide) k) ?_
      refine Gl.pre (B := s₁.setTop (mkF m 15 #[.val (.int p1), .val (.int p2), .val (.int p3), .val (.int p4), .val (.int p5), .val (.int p6)] [(.int p1)])) (fun _ k => XS.iloadN X0.here hx rfl (hb hby d13_14) rfl k) ?_
      by_cases hc15_3 : p1 = (0 : Int32)
      · refine Gl.pre (B := s₁.setTop (mkF m 18 #[.val (.int p1), .val (.int p2), .val (.int p3), .val (.int p4), .val (.int p5), .val (.int p6)] [])) (fun _ k => XS.ifNo X0.here hx rfl (hb hby d13_15) rfl ((if0 _ _).trans (teq hc15_3).2) k) ?_
        refine Gl.pre (B := s₁.setTop (mkF m 19 #[.val (.int p1), .val (.int p2), .val (.int p3), .val (.int p4), .val (.int p5), .val (.int p6)] [(.int (1 : Int32))])) (fun _ k => XS.iconst X0.here hx rfl (hb hby d13_18) k) ?_
        refine Gl.out X0 (v := some (.int (1 : Int32))) (fun h => by rw [hret] at h; cases h) hlk (fun fs hr => retN X0 hx (t := .boolean) hret (by simp) (hb hby d13_19) hr) ?_ (by decide) (by decide)
        show Q_sme Z _ _ _ _ _ _ h0 n0 _ s₁.heap _
        rw [e0]
        exact ⟨by subst hc9_2; simp [sm, bI, hc2_1, hc15_3], N0, rfl⟩
      · refine Gl.pre (B := s₁.setTop (mkF m 20 #[.val (.int p1), .val (.int p2), .val (.int p3), .val (.int p4), .val (.int p5), .val (.int p6)] [])) (fun _ k => XS.ifYes X0.here hx rfl (pc0 := 15) (pc' := 20) rfl (hb hby d13_15) rfl ((if0 _ _).trans (feq hc15_3).2) (by decide) (by decide) k) ?_
        refine Gl.pre (B := s₁.setTop (mkF m 21 #[.val (.int p1), .val (.int p2), .val (.int p3), .val (.int p4), .val (.int p5), .val (.int p6)] [(.int p1)])) (fun _ k => XS.iloadN X0.here hx rfl (hb hby d13_20) rfl k) ?_
        refine Gl.pre (B := s₁.setTop (mkF m 22 #[.val (.int p1), .val (.int p2), .val (.int p3), .val (.int p4), .val (.int p5), .val (.int p6)] [(.int (1 : Int32)), (.int p1)])) (fun _ k => XS.iconst X0.here hx rfl (hb hby d13_21) k) ?_
        by_cases hc22_4 : p1 = (1 : Int32)
        · refine Gl.pre (B := s₁.setTop (mkF m 25 #[.val (.int p1), .val (.int p2), .val (.int p3), .val (.int p4), .val (.int p5), .val (.int p6)] [])) (fun _ k => XS.icmpNo X0.here hx rfl (hb hby d13_22) rfl (teq hc22_4).2 k) ?_
          refine Gl.pre (B := s₁.setTop (mkF m 26 #[.val (.int p1), .val (.int p2), .val (.int p3), .val (.int p4), .val (.int p5), .val (.int p6)] [(.int p2)])) (fun _ k => XS.iloadN X0.here hx rfl (hb hby d13_25) rfl k) ?_
          refine Gl.pre (B := s₁.setTop (mkF m 28 #[.val (.int p1), .val (.int p2), .val (.int p3), .val (.int p4), .val (.int p5), .val (.int p6)] [(.int p5), (.int p2)])) (fun _ k => XS.iload X0.here hx rfl (hb hby d13_26) rfl k) ?_
          by_cases hc28_5 : p2 = p5
          · refine Gl.pre (B := s₁.setTop (mkF m 31 #[.val (.int p1), .val (.int p2), .val (.int p3), .val (.int p4), .val (.int p5), .val (.int p6)] [])) (fun _ k => XS.icmpNo X0.here hx rfl (hb hby d13_28) rfl (teq hc28_5).2 k) ?_
            refine Gl.pre (B := s₁.setTop (mkF m 32 #[.val (.int p1), .val (.int p2), .val (.int p3), .val (.int p4), .val (.int p5), .val (.int p6)] [(.int (1 : Int32))])) (fun _ k => XS.iconst X0.here hx rfl (hb hby d13_31) k) ?_
            refine Gl.pre (B := s₁.setTop (mkF m 36 #[.val (.int p1), .val (.int p2), .val (.int p3), .val (.int p4), .val (.int p5), .val (.int p6)] [(.int (1 : Int32))])) (fun _ k => XS.goto X0.here hx rfl (pc0 := 32) (pc' := 36) rfl (hb hby d13_32) (by decide) (by decide) k) ?_
            refine Gl.out X0 (v := some (.int (1 : Int32))) (fun h => by rw [hret] at h; cases h) hlk (fun fs hr => retN X0 hx (t := .boolean) hret (by simp) (hb hby d13_36) hr) ?_ (by decide) (by decide)
            show Q_sme Z _ _ _ _ _ _ h0 n0 _ s₁.heap _
            rw [e0]
            exact ⟨by subst hc9_2; simp [sm, bI, hc2_1, hc15_3, hc22_4, hc28_5], N0, rfl⟩
          · refine Gl.pre (B := s₁.setTop (mkF m 35 #[.val (.int p1), .val (.int p2), .val (.int p3), .val (.int p4), .val (.int p5), .val (.int p6)] [])) (fun _ k => XS.icmpYes X0.here hx rfl (pc0 := 28) (pc' := 35) rfl (hb hby d13_28) rfl (feq hc28_5).2 (by decide) (by decide) k) ?_
            refine Gl.pre (B := s₁.setTop (mkF m 36 #[.val (.int p1), .val (.int p2), .val (.int p3), .val (.int p4), .val (.int p5), .val (.int p6)] [(.int (0 : Int32))])) (fun _ k => XS.iconst X0.here hx rfl (hb hby d13_35) k) ?_
            refine Gl.out X0 (v := some (.int (0 : Int32))) (fun h => by rw [hret] at h; cases h) hlk (fun fs hr => retN X0 hx (t := .boolean) hret (by simp) (hb hby d13_36) hr) ?_ (by decide) (by decide)
            show Q_sme Z _ _ _ _ _ _ h0 n0 _ s₁.heap _
            rw [e0]
            exact ⟨by subst hc9_2; simp [sm, bI, hc2_1, hc15_3, hc22_4, hc28_5], N0, rfl⟩
        · refine Gl.pre (B := s₁.setTop (mkF m 37 #[.val (.int p1), .val (.int p2), .val (.int p3), .val (.int p4), .val (.int p5), .val (.int p6)] [])) (fun _ k => XS.icmpYes X0.here hx rfl (pc0 := 22) (pc' := 37) rfl (hb hby d13_22) rfl (feq hc22_4).2 (by decide) (by decide) k) ?_
          refine Gl.pre (B := s₁.setTop (mkF m 38 #[.val (.int p1), .val (.int p2), .val (.int p3), .val (.int p4), .val (.int p5), .val (.int p6)] [(.int p2)])) (fun _ k => XS.iloadN X0.here hx rfl (hb hby d13_37) rfl k) ?_
          refine Gl.pre (B := s₁.setTop (mkF m 40 #[.val (.int p1), .val (.int p2), .val (.int p3), .val (.int p4), .val (.int p5), .val (.int p6)] [(.int p5), (.int p2)])) (fun _ k => XS.iload X0.here hx rfl (hb hby d13_38) rfl k) ?_
          by_cases hc40_6 : p2 = p5
          · refine Gl.pre (B := s₁.setTop (mkF m 43 #[.val (.int p1), .val (.int p2), .val (.int p3), .val (.int p4), .val (.int p5), .val (.int p6)] [])) (fun _ k => XS.icmpNo X0.here hx rfl (hb hby d13_40) rfl (teq hc40_6).2 k) ?_
            refine Gl.pre (B := s₁.setTop (mkF m 44 #[.val (.int p1), .val (.int p2), .val (.int p3), .val (.int p4), .val (.int p5), .val (.int p6)] [(.int p3)])) (fun _ k => XS.iloadN X0.here hx rfl (hb hby d13_43) rfl k) ?_
            refine Gl.pre (B := s₁.setTop (mkF m 46 #[.val (.int p1), .val (.int p2), .val (.int p3), .val (.int p4), .val (.int p5), .val (.int p6)] [(.int p6), (.int p3)])) (fun _ k => XS.iload X0.here hx rfl (hb hby d13_44) rfl k) ?_
            by_cases hc46_7 : p3 = p6
            · refine Gl.pre (B := s₁.setTop (mkF m 49 #[.val (.int p1), .val (.int p2), .val (.int p3), .val (.int p4), .val (.int p5), .val (.int p6)] [])) (fun _ k => XS.icmpNo X0.here hx rfl (hb hby d13_46) rfl (teq hc46_7).2 k) ?_
              refine Gl.pre (B := s₁.setTop (mkF m 50 #[.val (.int p1), .val (.int p2), .val (.int p3), .val (.int p4), .val (.int p5), .val (.int p6)] [(.int (1 : Int32))])) (fun _ k => XS.iconst X0.here hx rfl (hb hby d13_49) k) ?_
              refine Gl.pre (B := s₁.setTop (mkF m 54 #[.val (.int p1), .val (.int p2), .val (.int p3), .val (.int p4), .val (.int p5), .val (.int p6)] [(.int (1 : Int32))])) (fun _ k => XS.goto X0.here hx rfl (pc0 := 50) (pc' := 54) rfl (hb hby d13_50) (by decide) (by decide) k) ?_
              refine Gl.out X0 (v := some (.int (1 : Int32))) (fun h => by rw [hret] at h; cases h) hlk (fun fs hr => retN X0 hx (t := .boolean) hret (by simp) (hb hby d13_54) hr) ?_ (by decide) (by decide)
              show Q_sme Z _ _ _ _ _ _ h0 n0 _ s₁.heap _
              rw [e0]
              exact ⟨by subst hc9_2; simp [sm, bI, hc2_1, hc15_3, hc22_4, hc40_6, hc46_7], N0, rfl⟩
            · refine Gl.pre (B := s₁.setTop (mkF m 53 #[.val (.int p1), .val (.int p2), .val (.int p3), .val (.int p4), .val (.int p5), .val (.int p6)] [])) (fun _ k => XS.icmpYes X0.here hx rfl (pc0 := 46) (pc' := 53) rfl (hb hby d13_46) rfl (feq hc46_7).2 (by decide) (by decide) k) ?_
              refine Gl.pre (B := s₁.setTop (mkF m 54 #[.val (.int p1), .val (.int p2), .val (.int p3), .val (.int p4), .val (.int p5), .val (.int p6)] [(.int (0 : Int32))])) (fun _ k => XS.iconst X0.here hx rfl (hb hby d13_53) k) ?_
              refine Gl.out X0 (v := some (.int (0 : Int32))) (fun h => by rw [hret] at h; cases h) hlk (fun fs hr => retN X0 hx (t := .boolean) hret (by simp) (hb hby d13_54) hr) ?_ (by decide) (by decide)
              show Q_sme Z _ _ _ _ _ _ h0 n0 _ s₁.heap _
              rw [e0]
              exact ⟨by subst hc9_2; simp [sm, bI, hc2_1, hc15_3, hc22_4, hc40_6, hc46_7], N0, rfl⟩
          · refine Gl.pre (B := s₁.setTop (mkF m 53 #[.val (.int p1), .val (.int p2), .val (.int p3), .val (.int p4), .val (.int p5), .val (.int p6)] [])) (fun _ k => XS.icmpYes X0.here hx rfl (pc0 := 40) (pc' := 53) rfl (hb hby d13_40) rfl (feq hc40_6).2 (by decide) (by decide) k) ?_
            refine Gl.pre (B := s₁.setTop (mkF m 54 #[.val (.int p1), .val (.int p2), .val (.int p3), .val (.int p4), .val (.int p5), .val (.int p6)] [(.int (0 : Int32))])) (fun _ k => XS.iconst X0.here hx rfl (hb hby d13_53) k) ?_
            refine Gl.out X0 (v := some (.int (0 : Int32))) (fun h => by rw [hret] at h; cases h) hlk (fun fs hr => retN X0 hx (t := .boolean) hret (by simp) (hb hby d13_54) hr) ?_ (by decide) (by decide)
            show Q_sme Z _ _ _ _ _ _ h0 n0 _ s₁.heap _
            rw [e0]
            exact ⟨by subst hc9_2; simp [sm, bI, hc2_1, hc15_3, hc22_4, hc40_6], N0, rfl⟩
    · refine Gl.pre (B := s₁.setTop (mkF m 12 #[.val (.int p1), .val (.int p2), .val (.int p3), .val (.int p4), .val (.int p5), .val (.int p6)] [])) (fun _ k => XS.icmpNo X0.here hx rfl (hb hby d13_9) rfl (feq hc9_2).1 k) ?_
      refine Gl.pre (B := s₁.setTop (mkF m 13 #[.val (.int p1), .val (.int p2), .val (.int p3), .val (.int p4), .val (.int p5), .val (.int p6)] [(.int (0 : Int32))])) (fun _ k => XS.iconst X0.here hx rfl (hb hby d13_12) k) ?_
      refine Gl.out X0 (v := some (.int (0 : Int32))) (fun h => by rw [hret] at h; cases h) hlk (fun fs hr => retN X0 hx (t := .boolean) hret (by simp) (hb hby d13_13) hr) ?_ (by decide) (by decide)
      show Q_sme Z _ _ _ _ _ _ h0 n0 _ s₁.heap _
      rw [e0]
      exact ⟨by simp [sm, bI, hc2_1, hc9_2], N0, rfl⟩
theorem pd_4 : parseMethodDescriptor "(ICC)Ljava/lang/String;" = some ⟨[.int, .char, .char], some (.object "java/lang/String")⟩ := by decide +kernel
theorem pd_5 : parseMethodDescriptor "(Ljava/lang/String;Ljava/lang/String;)V" = some ⟨[(.object "java/lang/String"), (.object "java/lang/String")], none⟩ := by decide +kernel
theorem pd_6 : parseMethodDescriptor "(Ljava/lang/String;Ljava/lang/String;)Z" = some ⟨[(.object "java/lang/String"), (.object "java/lang/String")], some .boolean⟩ := by decide +kernel
theorem pd_7 : parseMethodDescriptor "(ICCICC)Z" = some ⟨[.int, .char, .char, .int, .char, .char], some .boolean⟩ := by decide +kernel
theorem ef_rm0 (m : MethodId) (x0 : Int32) (x1 : Int32) (x2 : Int32) (x3 : Int32) : entryFrame m #[(.int x0), (.int x1), (.int x2), (.int x3)] maxLocals = mkF m 0 #[.val (.int x0), .val (.int x1), .val (.int x2), .val (.int x3), .unset, .unset, .unset, .unset, .unset, .unset, .unset, .unset, .unset, .unset, .unset, .unset, .unset, .unset, .unset, .unset, .unset, .unset, .unset, .unset, .unset] [] := by first | (simp [entryFrame, mkF, argsToLocals, Value.category, maxLocals]; done) | rfl
def Q_rm0 (Z : State) (p1 : Int32) (p2 : Int32) (p3 : Int32) (p4 : Int32) (G1 : Int32) (h0 : Heap) (n0 : Nat) (v : Option Value) (h : Heap) (L : List Loc) : Prop := v = some (.int (1 : Int32)) ∧ Fr n0 L
set_option maxRecDepth 65536 in
set_option maxHeartbeats 40000000 in
theorem rm0 (l : Launch) (Z : State) (a0 : Array Value) (hw : ∀ d ∈ tables_1, d.before a0 Z = true) (ws : List Jvm.Cond) (p1 : Int32) (p2 : Int32) (p3 : Int32) (p4 : Int32) (G1 : Int32) (h0 : Heap) (n0 : Nat) (Z0 : n0 ≤ h0.size) (O2 : Sta Z Z.heap "java/lang/String" "COMPACT_STRINGS" "Z" (.int G1)) (P5 : ¬ (G1 = (0 : Int32))) (Od : Old Z n0 h0) :
    MetFree l x (head1 (Jvm.Cond.code x code maxLocals ret :: ws) room_1) (fun a U => a = #[(.int p1), (.int p2), (.int p3), (.int p4)] ∧ Z.Warmed39 U.vm ∧ U.heap = h0 ∧ CHv Z EL1 U.vm h0) (fun _ _ _ _ _ => True) (fun _ U o U' => ∃ v L, o = .returned v ∧ Q_rm0 Z p1 p2 p3 p4 G1 h0 n0 v U'.heap L ∧ CHr Z EL1 U.vm U.heap U'.vm U'.heap ∧ ReturnedEndW U o U' L room_1.cells room_1.slots) := by
  refine MetFree.of_bodySF (plainFor_of_name pn_com_example_tranquility_tranquility_NameTestMatchesPinLaw) hisR ?_
  intro p e s m args below meth c s₁ Bd hml0 hP hK
  obtain ⟨rfl, hZ, hh, CH0⟩ := hP
  have hx := Bd.exec
  have hby := Bd.bytes
  have hml : c.maxLocals = 25 := hml0
  have hown : s.vm.findClass "com/example/tranquility/tranquility/NameTestMatchesPinLaw" = some m.cls := findClass_of_methodNamed Bd.named
  have hnm := (name_of_methodNamed Bd.named Bd.method).1
  have hret : meth.sig.returnType = (some .boolean) := Bd.returns
  have hlk : meth.locks = false := BodyLoose.notSynchronized Bd
  have X0 : Stand p l e room_1 (s.setVm s.vm) m #[(.int p1), (.int p2), (.int p3), (.int p4)] below meth c s₁ [] 0 0 := Stand.of_body Bd
  have e0 : s₁.heap = h0 := by rw [← hh, Bd.state]; rfl
  have N0 := Fr.nil n0
  have hZ : Z.Warmed39 (s.setVm s.vm).vm := hZ
  have hown : (s.setVm s.vm).vm.findClass "com/example/tranquility/tranquility/NameTestMatchesPinLaw" = some m.cls := hown
  have hsh : s.heap = h0 := hh
  have hS0 : s.Since s.vm 0 := State.WarmedH.since (State.WarmedH.refl s) 0
  have hk0 : 0 ≤ h0.size := Nat.zero_le _
  have hEL : EW Z a0 EL1 := ew_all hw
  have CR : CHr Z EL1 s.vm h0 s.vm h0 := CHr.refl CH0
  show GlW p.tables e below s EL1 Z (Q_rm0 Z p1 p2 p3 p4 G1 h0 n0) 40 1216 _
  refine GlW.pre (B := s₁.setTop (mkF m 0 #[.val (.int p1), .val (.int p2), .val (.int p3), .val (.int p4), .unset, .unset, .unset, .unset, .unset, .unset, .unset, .unset, .unset, .unset, .unset, .unset, .unset, .unset, .unset, .unset, .unset, .unset, .unset, .unset, .unset] [])) (fun _ k => castTop (ef_rm0 m p1 p2 p3 p4) k) ?_
  refine GlW.pre (B := s₁.setTop (mkF m 1 #[.val (.int p1), .val (.int p2), .val (.int p3), .val (.int p4), .unset, .unset, .unset, .unset, .unset, .unset, .unset, .unset, .unset, .unset, .unset, .unset, .unset, .unset, .unset, .unset, .unset, .unset, .unset, .unset, .unset] [(.int p1)])) (fun _ k => XS.iloadN X0.here hx rfl (hb hby at_0) rfl k) ?_
  refine GlW.pre (B := s₁.setTop (mkF m 2 #[.val (.int p1), .val (.int p2), .val (.int p3), .val (.int p4), .unset, .unset, .unset, .unset, .unset, .unset, .unset, .unset, .unset, .unset, .unset, .unset, .unset, .unset, .unset, .unset, .unset, .unset, .unset, .unset, .unset] [(.int (3 : Int32)), (.int p1)])) (fun _ k => XS.iconst X0.here hx rfl (hb hby at_1) k) ?_
  refine GlW.pre (B := s₁.setTop (mkF m 3 #[.val (.int p1), .val (.int p2), .val (.int p3), .val (.int p4), .unset, .unset, .unset, .unset, .unset, .unset, .unset, .unset, .unset, .unset, .unset, .unset, .unset, .unset, .unset, .unset, .unset, .unset, .unset, .unset, .unset] [(.int (p1 &&& (3 : Int32)))])) (fun _ k => XS.iand X0.here hx rfl (hb hby at_2) rfl k) ?_
  refine GlW.pre (B := s₁.setTop (mkF m 5 #[.val (.int p1), .val (.int p2), .val (.int p3), .val (.int p4), .val (.int (p1 &&& (3 : Int32))), .unset, .unset, .unset, .unset, .unset, .unset, .unset, .unset, .unset, .unset, .unset, .unset, .unset, .unset, .unset, .unset, .unset, .unset, .unset, .unset] [])) (fun _ k => XS.istore X0.here hx rfl (hb hby at_3) rfl (l' := #[.val (.int p1), .val (.int p2), .val (.int p3), .val (.int p4), .val (.int (p1 &&& (3 : Int32))), .unset, .unset, .unset, .unset, .unset, .unset, .unset, .unset, .unset, .unset, .unset, .unset, .unset, .unset, .unset, .unset, .unset, .unset, .unset, .unset]) rfl k) ?_
  generalize h_cd1 : (p1 &&& (3 : Int32)) = cd1
  refine GlW.pre (B := s₁.setTop (mkF m 6 #[.val (.int p1), .val (.int p2), .val (.int p3), .val (.int p4), .val (.int cd1), .unset, .unset, .unset, .unset, .unset, .unset, .unset, .unset, .unset, .unset, .unset, .unset, .unset, .unset, .unset, .unset, .unset, .unset, .unset, .unset] [(.int p1)])) (fun _ k => XS.iloadN X0.here hx rfl (hb hby at_5) rfl k) ?_
  refine GlW.pre (B := s₁.setTop (mkF m 7 #[.val (.int p1), .val (.int p2), .val (.int p3), .val (.int p4), .val (.int cd1), .unset, .unset, .unset, .unset, .unset, .unset, .unset, .unset, .unset, .unset, .unset, .unset, .unset, .unset, .unset, .unset, .unset, .unset, .unset, .unset] [(.int (2 : Int32)), (.int p1)])) (fun _ k => XS.iconst X0.here hx rfl (hb hby at_6) k) ?_
  refine GlW.pre (B := s₁.setTop (mkF m 8 #[.val (.int p1), .val (.int p2), .val (.int p3), .val (.int p4), .val (.int cd1), .unset, .unset, .unset, .unset, .unset, .unset, .unset, .unset, .unset, .unset, .unset, .unset, .unset, .unset, .unset, .unset, .unset, .unset, .unset, .unset] [(.int ((p1.toUInt32 >>> ((2 : Int32) &&& 31).toUInt32).toInt32))])) (fun _ k => XS.iushr X0.here hx rfl (hb hby at_7) rfl k) ?_
  refine GlW.pre (B := s₁.setTop (mkF m 11 #[.val (.int p1), .val (.int p2), .val (.int p3), .val (.int p4), .val (.int cd1), .unset, .unset, .unset, .unset, .unset, .unset, .unset, .unset, .unset, .unset, .unset, .unset, .unset, .unset, .unset, .unset, .unset, .unset, .unset, .unset] [(.int (255 : Int32)), (.int ((p1.toUInt32 >>> ((2 : Int32) &&& 31).toUInt32).toInt32))])) (fun _ k => XS.sipush X0.here hx rfl (hb hby at_8) k) ?_
  refine GlW.pre (B := s₁.setTop (mkF m 12 #[.val (.int p1), .val (.int p2), .val (.int p3), .val (.int p4), .val (.int cd1), .unset, .unset, .unset, .unset, .unset, .unset, .unset, .unset, .unset, .unset, .unset, .unset, .unset, .unset, .unset, .unset, .unset, .unset, .unset, .unset] [(.int (((p1.toUInt32 >>> ((2 : Int32) &&& 31).toUInt32).toInt32) &&& (255 : Int32)))])) (fun _ k => XS.iand X0.here hx rfl (hb hby at_11) rfl k) ?_
  refine GlW.pre (B := s₁.setTop (mkF m 13 #[.val (.int p1), .val (.int p2), .val (.int p3), .val (.int p4), .val (.int cd1), .unset, .unset, .unset, .unset, .unset, .unset, .unset, .unset, .unset, .unset, .unset, .unset, .unset, .unset, .unset, .unset, .unset, .unset, .unset, .unset] [(.int ((((p1.toUInt32 >>> ((2 : Int32) &&& 31).toUInt32).toInt32) &&& (255 : Int32)).toUInt32.toUInt16.toUInt32.toInt32))])) (fun _ k => XS.i2c X0.here hx rfl (hb hby at_12) rfl k) ?_
  refine GlW.pre (B := s₁.setTop (mkF m 15 #[.val (.int p1), .val (.int p2), .val (.int p3), .val (.int p4), .val (.int cd1), .val (.int ((((p1.toUInt32 >>> ((2 : Int32) &&& 31).toUInt32).toInt32) &&& (255 : Int32)).toUInt32.toUInt16.toUInt32.toInt32)), .unset, .unset, .unset, .unset, .unset, .unset, .unset, .unset, .unset, .unset, .unset, .unset, .unset, .unset, .unset, .unset, .unset, .unset, .unset] [])) (fun _ k => XS.istore X0.here hx rfl (hb hby at_13) rfl (l' := #[.val (.int p1), .val (.int p2), .val (.int p3), .val (.int p4), .val (.int cd1), .val (.int ((((p1.toUInt32 >>> ((2 : Int32) &&& 31).toUInt32).toInt32) &&& (255 : Int32)).toUInt32.toUInt16.toUInt32.toInt32)), .unset, .unset, .unset, .unset, .unset, .unset, .unset, .unset, .unset, .unset, .unset, .unset, .unset, .unset, .unset, .unset, .unset, .unset, .unset]) rfl k) ?_
  generalize h_ch1 : ((((p1.toUInt32 >>> ((2 : Int32) &&& 31).toUInt32).toInt32) &&& (255 : Int32)).toUInt32.toUInt16.toUInt32.toInt32) = ch1
  refine GlW.pre (B := s₁.setTop (mkF m 16 #[.val (.int p1), .val (.int p2), .val (.int p3), .val (.int p4), .val (.int cd1), .val (.int ch1), .unset, .unset, .unset, .unset, .unset, .unset, .unset, .unset, .unset, .unset, .unset, .unset, .unset, .unset, .unset, .unset, .unset, .unset, .unset] [(.int p1)])) (fun _ k => XS.iloadN X0.here hx rfl (hb hby at_15) rfl k) ?_
  refine GlW.pre (B := s₁.setTop (mkF m 18 #[.val (.int p1), .val (.int p2), .val (.int p3), .val (.int p4), .val (.int cd1), .val (.int ch1), .unset, .unset, .unset, .unset, .unset, .unset, .unset, .unset, .unset, .unset, .unset, .unset, .unset, .unset, .unset, .unset, .unset, .unset, .unset] [(.int (10 : Int32)), (.int p1)])) (fun _ k => XS.bipush X0.here hx rfl (hb hby at_16) k) ?_
  refine GlW.pre (B := s₁.setTop (mkF m 19 #[.val (.int p1), .val (.int p2), .val (.int p3), .val (.int p4), .val (.int cd1), .val (.int ch1), .unset, .unset, .unset, .unset, .unset, .unset, .unset, .unset, .unset, .unset, .unset, .unset, .unset, .unset, .unset, .unset, .unset, .unset, .unset] [(.int ((p1.toUInt32 >>> ((10 : Int32) &&& 31).toUInt32).toInt32))])) (fun _ k => XS.iushr X0.here hx rfl (hb hby at_18) rfl k) ?_
  refine GlW.pre (B := s₁.setTop (mkF m 22 #[.val (.int p1), .val (.int p2), .val (.int p3), .val (.int p4), .val (.int cd1), .val (.int ch1), .unset, .unset, .unset, .unset, .unset, .unset, .unset, .unset, .unset, .unset, .unset, .unset, .unset, .unset, .unset, .unset, .unset, .unset, .unset] [(.int (255 : Int32)), (.int ((p1.toUInt32 >>> ((10 : Int32) &&& 31).toUInt32).toInt32))])) (fun _ k => XS.sipush X0.here hx rfl (hb hby at_19) k) ?_
  refine GlW.pre (B := s₁.setTop (mkF m 23 #[.val (.int p1), .val (.int p2), .val (.int p3), .val (.int p4), .val (.int cd1), .val (.int ch1), .unset, .unset, .unset, .unset, .unset, .unset, .unset, .unset, .unset, .unset, .unset, .unset, .unset, .unset, .unset, .unset, .unset, .unset, .unset] [(.int (((p1.toUInt32 >>> ((10 : Int32) &&& 31).toUInt32).toInt32) &&& (255 : Int32)))])) (fun _ k => XS.iand X0.here hx rfl (hb hby at_22) rfl k) ?_
  refine GlW.pre (B := s₁.setTop (mkF m 24 #[.val (.int p1), .val (.int p2), .val (.int p3), .val (.int p4), .val (.int cd1), .val (.int ch1), .unset, .unset, .unset, .unset, .unset, .unset, .unset, .unset, .unset, .unset, .unset, .unset, .unset, .unset, .unset, .unset, .unset, .unset, .unset] [(.int ((((p1.toUInt32 >>> ((10 : Int32) &&& 31).toUInt32).toInt32) &&& (255 : Int32)).toUInt32.toUInt16.toUInt32.toInt32))])) (fun _ k => XS.i2c X0.here hx rfl (hb hby at_23) rfl k) ?_
  refine GlW.pre (B := s₁.setTop (mkF m 26 #[.val (.int p1), .val (.int p2), .val (.int p3), .val (.int p4), .val (.int cd1), .val (.int ch1), .val (.int ((((p1.toUInt32 >>> ((10 : Int32) &&& 31).toUInt32).toInt32) &&& (255 : Int32)).toUInt32.toUInt16.toUInt32.toInt32)), .unset, .unset, .unset, .unset, .unset, .unset, .unset, .unset, .unset, .unset, .unset, .unset, .unset, .unset, .unset, .unset, .unset, .unset] [])) (fun _ k => XS.istore X0.here hx rfl (hb hby at_24) rfl (l' := #[.val (.int p1), .val (.int p2), .val (.int p3), .val (.int p4), .val (.int cd1), .val (.int ch1), .val (.int ((((p1.toUInt32 >>> ((10 : Int32) &&& 31).toUInt32).toInt32) &&& (255 : Int32)).toUInt32.toUInt16.toUInt32.toInt32)), .unset, .unset, .unset, .unset, .unset, .unset, .unset, .unset, .unset, .unset, .unset, .unset, .unset, .unset, .unset, .unset, .unset, .unset]) rfl k) ?_
  generalize h_ch2 : ((((p1.toUInt32 >>> ((10 : Int32) &&& 31).toUInt32).toInt32) &&& (255 : Int32)).toUInt32.toUInt16.toUInt32.toInt32) = ch2
  refine GlW.pre (B := s₁.setTop (mkF m 27 #[.val (.int p1), .val (.int p2), .val (.int p3), .val (.int p4), .val (.int cd1), .val (.int ch1), .val (.int ch2), .unset, .unset, .unset, .unset, .unset, .unset, .unset, .unset, .unset, .unset, .unset, .unset, .unset, .unset, .unset, .unset, .unset, .unset] [(.int p2)])) (fun _ k => XS.iloadN X0.here hx rfl (hb hby at_26) rfl k) ?_
  refine GlW.pre (B := s₁.setTop (mkF m 28 #[.val (.int p1), .val (.int p2), .val (.int p3), .val (.int p4), .val (.int cd1), .val (.int ch1), .val (.int ch2), .unset, .unset, .unset, .unset, .unset, .unset, .unset, .unset, .unset, .unset, .unset, .unset, .unset, .unset, .unset, .unset, .unset, .unset] [(.int (3 : Int32)), (.int p2)])) (fun _ k => XS.iconst X0.here hx rfl (hb hby at_27) k) ?_
  refine GlW.pre (B := s₁.setTop (mkF m 29 #[.val (.int p1), .val (.int p2), .val (.int p3), .val (.int p4), .val (.int cd1), .val (.int ch1), .val (.int ch2), .unset, .unset, .unset, .unset, .unset, .unset, .unset, .unset, .unset, .unset, .unset, .unset, .unset, .unset, .unset, .unset, .unset, .unset] [(.int (p2 &&& (3 : Int32)))])) (fun _ k => XS.iand X0.here hx rfl (hb hby at_28) rfl k) ?_
  refine GlW.pre (B := s₁.setTop (mkF m 31 #[.val (.int p1), .val (.int p2), .val (.int p3), .val (.int p4), .val (.int cd1), .val (.int ch1), .val (.int ch2), .val (.int (p2 &&& (3 : Int32))), .unset, .unset, .unset, .unset, .unset, .unset, .unset, .unset, .unset, .unset, .unset, .unset, .unset, .unset, .unset, .unset, .unset] [])) (fun _ k => XS.istore X0.here hx rfl (hb hby at_29) rfl (l' := #[.val (.int p1), .val (.int p2), .val (.int p3), .val (.int p4), .val (.int cd1), .val (.int ch1), .val (.int ch2), .val (.int (p2 &&& (3 : Int32))), .unset, .unset, .unset, .unset, .unset, .unset, .unset, .unset, .unset, .unset, .unset, .unset, .unset, .unset, .unset, .unset, .unset]) rfl k) ?_
  generalize h_cd2 : (p2 &&& (3 : Int32)) = cd2
  refine GlW.pre (B := s₁.setTop (mkF m 32 #[.val (.int p1), .val (.int p2), .val (.int p3), .val (.int p4), .val (.int cd1), .val (.int ch1), .val (.int ch2), .val (.int cd2), .unset, .unset, .unset, .unset, .unset, .unset, .unset, .unset, .unset, .unset, .unset, .unset, .unset, .unset, .unset, .unset, .unset] [(.int p2)])) (fun _ k => XS.iloadN X0.here hx rfl (hb hby at_31) rfl k) ?_
  refine GlW.pre (B := s₁.setTop (mkF m 33 #[.val (.int p1), .val (.int p2), .val (.int p3), .val (.int p4), .val (.int cd1), .val (.int ch1), .val (.int ch2), .val (.int cd2), .unset, .unset, .unset, .unset, .unset, .unset, .unset, .unset, .unset, .unset, .unset, .unset, .unset, .unset, .unset, .unset, .unset] [(.int (2 : Int32)), (.int p2)])) (fun _ k => XS.iconst X0.here hx rfl (hb hby at_32) k) ?_
  refine GlW.pre (B := s₁.setTop (mkF m 34 #[.val (.int p1), .val (.int p2), .val (.int p3), .val (.int p4), .val (.int cd1), .val (.int ch1), .val (.int ch2), .val (.int cd2), .unset, .unset, .unset, .unset, .unset, .unset, .unset, .unset, .unset, .unset, .unset, .unset, .unset, .unset, .unset, .unset, .unset] [(.int ((p2.toUInt32 >>> ((2 : Int32) &&& 31).toUInt32).toInt32))])) (fun _ k => XS.iushr X0.here hx rfl (hb hby at_33) rfl k) ?_
  refine GlW.pre (B := s₁.setTop (mkF m 37 #[.val (.int p1), .val (.int p2), .val (.int p3), .val (.int p4), .val (.int cd1), .val (.int ch1), .val (.int ch2), .val (.int cd2), .unset, .unset, .unset, .unset, .unset, .unset, .unset, .unset, .unset, .unset, .unset, .unset, .unset, .unset, .unset, .unset, .unset] [(.int (255 : Int32)), (.int ((p2.toUInt32 >>> ((2 : Int32) &&& 31).toUInt32).toInt32))])) (fun _ k => XS.sipush X0.here hx rfl (hb hby at_34) k) ?_
  refine GlW.pre (B := s₁.setTop (mkF m 38 #[.val (.int p1), .val (.int p2), .val (.int p3), .val (.int p4), .val (.int cd1), .val (.int ch1), .val (.int ch2), .val (.int cd2), .unset, .unset, .unset, .unset, .unset, .unset, .unset, .unset, .unset, .unset, .unset, .unset, .unset, .unset, .unset, .unset, .unset] [(.int (((p2.toUInt32 >>> ((2 : Int32) &&& 31).toUInt32).toInt32) &&& (255 : Int32)))])) (fun _ k => XS.iand X0.here hx rfl (hb hby at_37) rfl k) ?_
  refine GlW.pre (B := s₁.setTop (mkF m 39 #[.val (.int p1), .val (.int p2), .val (.int p3), .val (.int p4), .val (.int cd1), .val (.int ch1), .val (.int ch2), .val (.int cd2), .unset, .unset, .unset, .unset, .unset, .unset, .unset, .unset, .unset, .unset, .unset, .unset, .unset, .unset, .unset, .unset, .unset] [(.int ((((p2.toUInt32 >>> ((2 : Int32) &&& 31).toUInt32).toInt32) &&& (255 : Int32)).toUInt32.toUInt16.toUInt32.toInt32))])) (fun _ k => XS.i2c X0.here hx rfl (hb hby at_38) rfl k) ?_
  refine GlW.pre (B := s₁.setTop (mkF m 41 #[.val (.int p1), .val (.int p2), .val (.int p3), .val (.int p4), .val (.int cd1), .val (.int ch1), .val (.int ch2), .val (.int cd2), .val (.int ((((p2.toUInt32 >>> ((2 : Int32) &&& 31).toUInt32).toInt32) &&& (255 : Int32)).toUInt32.toUInt16.toUInt32.toInt32)), .unset, .unset, .unset, .unset, .unset, .unset, .unset, .unset, .unset, .unset, .unset, .unset, .unset, .unset, .unset, .unset] [])) (fun _ k => XS.istore X0.here hx rfl (hb hby at_39) rfl (l' := #[.val (.int p1), .val (.int p2), .val (.int p3), .val (.int p4), .val (.int cd1), .val (.int ch1), .val (.int ch2), .val (.int cd2), .val (.int ((((p2.toUInt32 >>> ((2 : Int32) &&& 31).toUInt32).toInt32) &&& (255 : Int32)).toUInt32.toUInt16.toUInt32.toInt32)), .unset, .unset, .unset, .unset, .unset, .unset, .unset, .unset, .unset, .unset, .unset, .unset, .unset, .unset, .unset, .unset]) rfl k) ?_
  generalize h_ch3 : ((((p2.toUInt32 >>> ((2 : Int32) &&& 31).toUInt32).toInt32) &&& (255 : Int32)).toUInt32.toUInt16.toUInt32.toInt32) = ch3
  refine GlW.pre (B := s₁.setTop (mkF m 42 #[.val (.int p1), .val (.int p2), .val (.int p3), .val (.int p4), .val (.int cd1), .val (.int ch1), .val (.int ch2), .val (.int cd2), .val (.int ch3), .unset, .unset, .unset, .unset, .unset, .unset, .unset, .unset, .unset, .unset, .unset, .unset, .unset, .unset, .unset, .unset] [(.int p2)])) (fun _ k => XS.iloadN X0.here hx rfl (hb hby at_41) rfl k) ?_
  refine GlW.pre (B := s₁.setTop (mkF m 44 #[.val (.int p1), .val (.int p2), .val (.int p3), .val (.int p4), .val (.int cd1), .val (.int ch1), .val (.int ch2), .val (.int cd2), .val (.int ch3), .unset, .unset, .unset, .unset, .unset, .unset, .unset, .unset, .unset, .unset, .unset, .unset, .unset, .unset, .unset, .unset] [(.int (10 : Int32)), (.int p2)])) (fun _ k => XS.bipush X0.here hx rfl (hb hby at_42) k) ?_
  refine GlW.pre (B := s₁.setTop (mkF m 45 #[.val (.int p1), .val (.int p2), .val (.int p3), .val (.int p4), .val (.int cd1), .val (.int ch1), .val (.int ch2), .val (.int cd2), .val (.int ch3), .unset, .unset, .unset, .unset, .unset, .unset, .unset, .unset, .unset, .unset, .unset, .unset, .unset, .unset, .unset, .unset] [(.int ((p2.toUInt32 >>> ((10 : Int32) &&& 31).toUInt32).toInt32))])) (fun _ k => XS.iushr X0.here hx rfl (hb hby at_44) rfl k) ?_
  refine GlW.pre (B := s₁.setTop (mkF m 48 #[.val (.int p1), .val (.int p2), .val (.int p3), .val (.int p4), .val (.int cd1), .val (.int ch1), .val (.int ch2), .val (.int cd2), .val (.int ch3), .unset, .unset, .unset, .unset, .unset, .unset, .unset, .unset, .unset, .unset, .unset, .unset, .unset, .unset, .unset, .unset] [(.int (255 : Int32)), (.int ((p2.toUInt32 >>> ((10 : Int32) &&& 31).toUInt32).toInt32))])) (fun _ k => XS.sipush X0.here hx rfl (hb hby at_45) k) ?_
  refine GlW.pre (B := s₁.setTop (mkF m 49 #[.val (.int p1), .val (.int p2), .val (.int p3), .val (.int p4), .val (.int cd1), .val (.int ch1), .val (.int ch2), .val (.int cd2), .val (.int ch3), .unset, .unset, .unset, .unset, .unset, .unset, .unset, .unset, .unset, .unset, .unset, .unset, .unset, .unset, .unset, .unset] [(.int (((p2.toUInt32 >>> ((10 : Int32) &&& 31).toUInt32).toInt32) &&& (255 : Int32)))])) (fun _ k => XS.iand X0.here hx rfl (hb hby at_48) rfl k) ?_
  refine GlW.pre (B := s₁.setTop (mkF m 50 #[.val (.int p1), .val (.int p2), .val (.int p3), .val (.int p4), .val (.int cd1), .val (.int ch1), .val (.int ch2), .val (.int cd2), .val (.int ch3), .unset, .unset, .unset, .unset, .unset, .unset, .unset, .unset, .unset, .unset, .unset, .unset, .unset, .unset, .unset, .unset] [(.int ((((p2.toUInt32 >>> ((10 : Int32) &&& 31).toUInt32).toInt32) &&& (255 : Int32)).toUInt32.toUInt16.toUInt32.toInt32))])) (fun _ k => XS.i2c X0.here hx rfl (hb hby at_49) rfl k) ?_
  refine GlW.pre (B := s₁.setTop (mkF m 52 #[.val (.int p1), .val (.int p2), .val (.int p3), .val (.int p4), .val (.int cd1), .val (.int ch1), .val (.int ch2), .val (.int cd2), .val (.int ch3), .val (.int ((((p2.toUInt32 >>> ((10 : Int32) &&& 31).toUInt32).toInt32) &&& (255 : Int32)).toUInt32.toUInt16.toUInt32.toInt32)), .unset, .unset, .unset, .unset, .unset, .unset, .unset, .unset, .unset, .unset, .unset, .unset, .unset, .unset, .unset] [])) (fun _ k => XS.istore X0.here hx rfl (hb hby at_50) rfl (l' := #[.val (.int p1), .val (.int p2), .val (.int p3), .val (.int p4), .val (.int cd1), .val (.int ch1), .val (.int ch2), .val (.int cd2), .val (.int ch3), .val (.int ((((p2.toUInt32 >>> ((10 : Int32) &&& 31).toUInt32).toInt32) &&& (255 : Int32)).toUInt32.toUInt16.toUInt32.toInt32)), .unset, .unset, .unset, .unset, .unset, .unset, .unset, .unset, .unset, .unset, .unset, .unset, .unset, .unset, .unset]) rfl k) ?_
  generalize h_ch4 : ((((p2.toUInt32 >>> ((10 : Int32) &&& 31).toUInt32).toInt32) &&& (255 : Int32)).toUInt32.toUInt16.toUInt32.toInt32) = ch4
  refine GlW.pre (B := s₁.setTop (mkF m 53 #[.val (.int p1), .val (.int p2), .val (.int p3), .val (.int p4), .val (.int cd1), .val (.int ch1), .val (.int ch2), .val (.int cd2), .val (.int ch3), .val (.int ch4), .unset, .unset, .unset, .unset, .unset, .unset, .unset, .unset, .unset, .unset, .unset, .unset, .unset, .unset, .unset] [(.int p3)])) (fun _ k => XS.iloadN X0.here hx rfl (hb hby at_52) rfl k) ?_
  refine GlW.pre (B := s₁.setTop (mkF m 54 #[.val (.int p1), .val (.int p2), .val (.int p3), .val (.int p4), .val (.int cd1), .val (.int ch1), .val (.int ch2), .val (.int cd2), .val (.int ch3), .val (.int ch4), .unset, .unset, .unset, .unset, .unset, .unset, .unset, .unset, .unset, .unset, .unset, .unset, .unset, .unset, .unset] [(.int (3 : Int32)), (.int p3)])) (fun _ k => XS.iconst X0.here hx rfl (hb hby at_53) k) ?_
  refine GlW.pre (B := s₁.setTop (mkF m 55 #[.val (.int p1), .val (.int p2), .val (.int p3), .val (.int p4), .val (.int cd1), .val (.int ch1), .val (.int ch2), .val (.int cd2), .val (.int ch3), .val (.int ch4), .unset, .unset, .unset, .unset, .unset, .unset, .unset, .unset, .unset, .unset, .unset, .unset, .unset, .unset, .unset] [(.int (p3 &&& (3 : Int32)))])) (fun _ k => XS.iand X0.here hx rfl (hb hby at_54) rfl k) ?_
  refine GlW.pre (B := s₁.setTop (mkF m 57 #[.val (.int p1), .val (.int p2), .val (.int p3), .val (.int p4), .val (.int cd1), .val (.int ch1), .val (.int ch2), .val (.int cd2), .val (.int ch3), .val (.int ch4), .val (.int (p3 &&& (3 : Int32))), .unset, .unset, .unset, .unset, .unset, .unset, .unset, .unset, .unset, .unset, .unset, .unset, .unset, .unset] [])) (fun _ k => XS.istore X0.here hx rfl (hb hby at_55) rfl (l' := #[.val (.int p1), .val (.int p2), .val (.int p3), .val (.int p4), .val (.int cd1), .val (.int ch1), .val (.int ch2), .val (.int cd2), .val (.int ch3), .val (.int ch4), .val (.int (p3 &&& (3 : Int32))), .unset, .unset, .unset, .unset, .unset, .unset, .unset, .unset, .unset, .unset, .unset, .unset, .unset, .unset]) rfl k) ?_
  generalize h_cd3 : (p3 &&& (3 : Int32)) = cd3
  refine GlW.pre (B := s₁.setTop (mkF m 59 #[.val (.int p1), .val (.int p2), .val (.int p3), .val (.int p4), .val (.int cd1), .val (.int ch1), .val (.int ch2), .val (.int cd2), .val (.int ch3), .val (.int ch4), .val (.int cd3), .unset, .unset, .unset, .unset, .unset, .unset, .unset, .unset, .unset, .unset, .unset, .unset, .unset, .unset] [(.int ch1)])) (fun _ k => XS.iload X0.here hx rfl (hb hby at_57) rfl k) ?_
  refine GlW.pre (B := s₁.setTop (mkF m 60 #[.val (.int p1), .val (.int p2), .val (.int p3), .val (.int p4), .val (.int cd1), .val (.int ch1), .val (.int ch2), .val (.int cd2), .val (.int ch3), .val (.int ch4), .val (.int cd3), .unset, .unset, .unset, .unset, .unset, .unset, .unset, .unset, .unset, .unset, .unset, .unset, .unset, .unset] [(.int p3), (.int ch1)])) (fun _ k => XS.iloadN X0.here hx rfl (hb hby at_59) rfl k) ?_
  refine GlW.pre (B := s₁.setTop (mkF m 61 #[.val (.int p1), .val (.int p2), .val (.int p3), .val (.int p4), .val (.int cd1), .val (.int ch1), .val (.int ch2), .val (.int cd2), .val (.int ch3), .val (.int ch4), .val (.int cd3), .unset, .unset, .unset, .unset, .unset, .unset, .unset, .unset, .unset, .unset, .unset, .unset, .unset, .unset] [(.int (2 : Int32)), (.int p3), (.int ch1)])) (fun _ k => XS.iconst X0.here hx rfl (hb hby at_60) k) ?_
  refine GlW.pre (B := s₁.setTop (mkF m 62 #[.val (.int p1), .val (.int p2), .val (.int p3), .val (.int p4), .val (.int cd1), .val (.int ch1), .val (.int ch2), .val (.int cd2), .val (.int ch3), .val (.int ch4), .val (.int cd3), .unset, .unset, .unset, .unset, .unset, .unset, .unset, .unset, .unset, .unset, .unset, .unset, .unset, .unset] [(.int ((p3.toUInt32 >>> ((2 : Int32) &&& 31).toUInt32).toInt32)), (.int ch1)])) (fun _ k => XS.iushr X0.here hx rfl (hb hby at_61) rfl k) ?_
  refine GlW.pre (B := s₁.setTop (mkF m 65 #[.val (.int p1), .val (.int p2), .val (.int p3), .val (.int p4), .val (.int cd1), .val (.int ch1), .val (.int ch2), .val (.int cd2), .val (.int ch3), .val (.int ch4), .val (.int cd3), .unset, .unset, .unset, .unset, .unset, .unset, .unset, .unset, .unset, .unset, .unset, .unset, .unset, .unset] [(.int (255 : Int32)), (.int ((p3.toUInt32 >>> ((2 : Int32) &&& 31).toUInt32).toInt32)), (.int ch1)])) (fun _ k => XS.sipush X0.here hx rfl (hb hby at_62) k) ?_
  refine GlW.pre (B := s₁.setTop (mkF m 66 #[.val (.int p1), .val (.int p2), .val (.int p3), .val (.int p4), .val (.int cd1), .val (.int ch1), .val (.int ch2), .val (.int cd2), .val (.int ch3), .val (.int ch4), .val (.int cd3), .unset, .unset, .unset, .unset, .unset, .unset, .unset, .unset, .unset, .unset, .unset, .unset, .unset, .unset] [(.int (((p3.toUInt32 >>> ((2 : Int32) &&& 31).toUInt32).toInt32) &&& (255 : Int32))), (.int ch1)])) (fun _ k => XS.iand X0.here hx rfl (hb hby at_65) rfl k) ?_
  refine GlW.pre (B := s₁.setTop (mkF m 67 #[.val (.int p1), .val (.int p2), .val (.int p3), .val (.int p4), .val (.int cd1), .val (.int ch1), .val (.int ch2), .val (.int cd2), .val (.int ch3), .val (.int ch4), .val (.int cd3), .unset, .unset, .unset, .unset, .unset, .unset, .unset, .unset, .unset, .unset, .unset, .unset, .unset, .unset] [(.int (ch1 ^^^ (((p3.toUInt32 >>> ((2 : Int32) &&& 31).toUInt32).toInt32) &&& (255 : Int32))))])) (fun _ k => XS.ixor X0.here hx rfl (hb hby at_66) rfl k) ?_
  refine GlW.pre (B := s₁.setTop (mkF m 68 #[.val (.int p1), .val (.int p2), .val (.int p3), .val (.int p4), .val (.int cd1), .val (.int ch1), .val (.int ch2), .val (.int cd2), .val (.int ch3), .val (.int ch4), .val (.int cd3), .unset, .unset, .unset, .unset, .unset, .unset, .unset, .unset, .unset, .unset, .unset, .unset, .unset, .unset] [(.int ((ch1 ^^^ (((p3.toUInt32 >>> ((2 : Int32) &&& 31).toUInt32).toInt32) &&& (255 : Int32))).toUInt32.toUInt16.toUInt32.toInt32))])) (fun _ k => XS.i2c X0.here hx rfl (hb hby at_67) rfl k) ?_
  refine GlW.pre (B := s₁.setTop (mkF m 70 #[.val (.int p1), .val (.int p2), .val (.int p3), .val (.int p4), .val (.int cd1), .val (.int ch1), .val (.int ch2), .val (.int cd2), .val (.int ch3), .val (.int ch4), .val (.int cd3), .val (.int ((ch1 ^^^ (((p3.toUInt32 >>> ((2 : Int32) &&& 31).toUInt32).toInt32) &&& (255 : Int32))).toUInt32.toUInt16.toUInt32.toInt32)), .unset, .unset, .unset, .unset, .unset, .unset, .unset, .unset, .unset, .unset, .unset, .unset, .unset] [])) (fun _ k => XS.istore X0.here hx rfl (hb hby at_68) rfl (l' := #[.val (.int p1), .val (.int p2), .val (.int p3), .val (.int p4), .val (.int cd1), .val (.int ch1), .val (.int ch2), .val (.int cd2), .val (.int ch3), .val (.int ch4), .val (.int cd3), .val (.int ((ch1 ^^^ (((p3.toUInt32 >>> ((2 : Int32) &&& 31).toUInt32).toInt32) &&& (255 : Int32))).toUInt32.toUInt16.toUInt32.toInt32)), .unset, .unset, .unset, .unset, .unset, .unset, .unset, .unset, .unset, .unset, .unset, .unset, .unset]) rfl k) ?_
  generalize h_ch5 : ((ch1 ^^^ (((p3.toUInt32 >>> ((2 : Int32) &&& 31).toUInt32).toInt32) &&& (255 : Int32))).toUInt32.toUInt16.toUInt32.toInt32) = ch5
  refine GlW.pre (B := s₁.setTop (mkF m 72 #[.val (.int p1), .val (.int p2), .val (.int p3), .val (.int p4), .val (.int cd1), .val (.int ch1), .val (.int ch2), .val (.int cd2), .val (.int ch3), .val (.int ch4), .val (.int cd3), .val (.int ch5), .unset, .unset, .unset, .unset, .unset, .unset, .unset, .unset, .unset, .unset, .unset, .unset, .unset] [(.int ch2)])) (fun _ k => XS.iload X0.here hx rfl (hb hby at_70) rfl k) ?_
  refine GlW.pre (B := s₁.setTop (mkF m 73 #[.val (.int p1), .val (.int p2), .val (.int p3), .val (.int p4), .val (.int cd1), .val (.int ch1), .val (.int ch2), .val (.int cd2), .val (.int ch3), .val (.int ch4), .val (.int cd3), .val (.int ch5), .unset, .unset, .unset, .unset, .unset, .unset, .unset, .unset, .unset, .unset, .unset, .unset, .unset] [(.int p3), (.int ch2)])) (fun _ k => XS.iloadN X0.here hx rfl (hb hby at_72) rfl k) ?_
  refine GlW.pre (B := s₁.setTop (mkF m 75 #[.val (.int p1), .val (.int p2), .val (.int p3), .val (.int p4), .val (.int cd1), .val (.int ch1), .val (.int ch2), .val (.int cd2), .val (.int ch3), .val (.int ch4), .val (.int cd3), .val (.int ch5), .unset, .unset, .unset, .unset, .unset, .unset, .unset, .unset, .unset, .unset, .unset, .unset, .unset] [(.int (10 : Int32)), (.int p3), (.int ch2)])) (fun _ k => XS.bipush X0.here hx rfl (hb hby at_73) k) ?_
  refine GlW.pre (B := s₁.setTop (mkF m 76 #[.val (.int p1), .val (.int p2), .val (.int p3), .val (.int p4), .val (.int cd1), .val (.int ch1), .val (.int ch2), .val (.int cd2), .val (.int ch3), .val (.int ch4), .val (.int cd3), .val (.int ch5), .unset, .unset, .unset, .unset, .unset, .unset, .unset, .unset, .unset, .unset, .unset, .unset, .unset] [(.int ((p3.toUInt32 >>> ((10 : Int32) &&& 31).toUInt32).toInt32)), (.int ch2)])) (fun _ k => XS.iushr X0.here hx rfl (hb hby at_75) rfl k) ?_
  refine GlW.pre (B := s₁.setTop (mkF m 79 #[.val (.int p1), .val (.int p2), .val (.int p3), .val (.int p4), .val (.int cd1), .val (.int ch1), .val (.int ch2), .val (.int cd2), .val (.int ch3), .val (.int ch4), .val (.int cd3), .val (.int ch5), .unset, .unset, .unset, .unset, .unset, .unset, .unset, .unset, .unset, .unset, .unset, .unset, .unset] [(.int (255 : Int32)), (.int ((p3.toUInt32 >>> ((10 : Int32) &&& 31).toUInt32).toInt32)), (.int ch2)])) (fun _ k => XS.sipush X0.here hx rfl (hb hby at_76) k) ?_
  refine GlW.pre (B := s₁.setTop (mkF m 80 #[.val (.int p1), .val (.int p2), .val (.int p3), .val (.int p4), .val (.int cd1), .val (.int ch1), .val (.int ch2), .val (.int cd2), .val (.int ch3), .val (.int ch4), .val (.int cd3), .val (.int ch5), .unset, .unset, .unset, .unset, .unset, .unset, .unset, .unset, .unset, .unset, .unset, .unset, .unset] [(.int (((p3.toUInt32 >>> ((10 : Int32) &&& 31).toUInt32).toInt32) &&& (255 : Int32))), (.int ch2)])) (fun _ k => XS.iand X0.here hx rfl (hb hby at_79) rfl k) ?_
  refine GlW.pre (B := s₁.setTop (mkF m 81 #[.val (.int p1), .val (.int p2), .val (.int p3), .val (.int p4), .val (.int cd1), .val (.int ch1), .val (.int ch2), .val (.int cd2), .val (.int ch3), .val (.int ch4), .val (.int cd3), .val (.int ch5), .unset, .unset, .unset, .unset, .unset, .unset, .unset, .unset, .unset, .unset, .unset, .unset, .unset] [(.int (ch2 ^^^ (((p3.toUInt32 >>> ((10 : Int32) &&& 31).toUInt32).toInt32) &&& (255 : Int32))))])) (fun _ k => XS.ixor X0.here hx rfl (hb hby at_80) rfl k) ?_
  refine GlW.pre (B := s₁.setTop (mkF m 82 #[.val (.int p1), .val (.int p2), .val (.int p3), .val (.int p4), .val (.int cd1), .val (.int ch1), .val (.int ch2), .val (.int cd2), .val (.int ch3), .val (.int ch4), .val (.int cd3), .val (.int ch5), .unset, .unset, .unset, .unset, .unset, .unset, .unset, .unset, .unset, .unset, .unset, .unset, .unset] [(.int ((ch2 ^^^ (((p3.toUInt32 >>> ((10 : Int32) &&& 31).toUInt32).toInt32) &&& (255 : Int32))).toUInt32.toUInt16.toUInt32.toInt32))])) (fun _ k => XS.i2c X0.here hx rfl (hb hby at_81) rfl k) ?_
  refine GlW.pre (B := s₁.setTop (mkF m 84 #[.val (.int p1), .val (.int p2), .val (.int p3), .val (.int p4), .val (.int cd1), .val (.int ch1), .val (.int ch2), .val (.int cd2), .val (.int ch3), .val (.int ch4), .val (.int cd3), .val (.int ch5), .val (.int ((ch2 ^^^ (((p3.toUInt32 >>> ((10 : Int32) &&& 31).toUInt32).toInt32) &&& (255 : Int32))).toUInt32.toUInt16.toUInt32.toInt32)), .unset, .unset, .unset, .unset, .unset, .unset, .unset, .unset, .unset, .unset, .unset, .unset] [])) (fun _ k => XS.istore X0.here hx rfl (hb hby at_82) rfl (l' := #[.val (.int p1), .val (.int p2), .val (.int p3), .val (.int p4), .val (.int cd1), .val (.int ch1), .val (.int ch2), .val (.int cd2), .val (.int ch3), .val (.int ch4), .val (.int cd3), .val (.int ch5), .val (.int ((ch2 ^^^ (((p3.toUInt32 >>> ((10 : Int32) &&& 31).toUInt32).toInt32) &&& (255 : Int32))).toUInt32.toUInt16.toUInt32.toInt32)), .unset, .unset, .unset, .unset, .unset, .unset, .unset, .unset, .unset, .unset, .unset, .unset]) rfl k) ?_
  generalize h_ch6 : ((ch2 ^^^ (((p3.toUInt32 >>> ((10 : Int32) &&& 31).toUInt32).toInt32) &&& (255 : Int32))).toUInt32.toUInt16.toUInt32.toInt32) = ch6
  refine GlW.pre (B := s₁.setTop (mkF m 85 #[.val (.int p1), .val (.int p2), .val (.int p3), .val (.int p4), .val (.int cd1), .val (.int ch1), .val (.int ch2), .val (.int cd2), .val (.int ch3), .val (.int ch4), .val (.int cd3), .val (.int ch5), .val (.int ch6), .unset, .unset, .unset, .unset, .unset, .unset, .unset, .unset, .unset, .unset, .unset, .unset] [(.int p4)])) (fun _ k => XS.iloadN X0.here hx rfl (hb hby at_84) rfl k) ?_
  refine GlW.pre (B := s₁.setTop (mkF m 86 #[.val (.int p1), .val (.int p2), .val (.int p3), .val (.int p4), .val (.int cd1), .val (.int ch1), .val (.int ch2), .val (.int cd2), .val (.int ch3), .val (.int ch4), .val (.int cd3), .val (.int ch5), .val (.int ch6), .unset, .unset, .unset, .unset, .unset, .unset, .unset, .unset, .unset, .unset, .unset, .unset] [(.int (3 : Int32)), (.int p4)])) (fun _ k => XS.iconst X0.here hx rfl (hb hby at_85) k) ?_
  refine GlW.pre (B := s₁.setTop (mkF m 87 #[.val (.int p1), .val (.int p2), .val (.int p3), .val (.int p4), .val (.int cd1), .val (.int ch1), .val (.int ch2), .val (.int cd2), .val (.int ch3), .val (.int ch4), .val (.int cd3), .val (.int ch5), .val (.int ch6), .unset, .unset, .unset, .unset, .unset, .unset, .unset, .unset, .unset, .unset, .unset, .unset] [(.int (p4 &&& (3 : Int32)))])) (fun _ k => XS.iand X0.here hx rfl (hb hby at_86) rfl k) ?_
  refine GlW.pre (B := s₁.setTop (mkF m 89 #[.val (.int p1), .val (.int p2), .val (.int p3), .val (.int p4), .val (.int cd1), .val (.int ch1), .val (.int ch2), .val (.int cd2), .val (.int ch3), .val (.int ch4), .val (.int cd3), .val (.int ch5), .val (.int ch6), .val (.int (p4 &&& (3 : Int32))), .unset, .unset, .unset, .unset, .unset, .unset, .unset, .unset, .unset, .unset, .unset] [])) (fun _ k => XS.istore X0.here hx rfl (hb hby at_87) rfl (l' := #[.val (.int p1), .val (.int p2), .val (.int p3), .val (.int p4), .val (.int cd1), .val (.int ch1), .val (.int ch2), .val (.int cd2), .val (.int ch3), .val (.int ch4), .val (.int cd3), .val (.int ch5), .val (.int ch6), .val (.int (p4 &&& (3 : Int32))), .unset, .unset, .unset, .unset, .unset, .unset, .unset, .unset, .unset, .unset, .unset]) rfl k) ?_
  generalize h_cd4 : (p4 &&& (3 : Int32)) = cd4
  refine GlW.pre (B := s₁.setTop (mkF m 91 #[.val (.int p1), .val (.int p2), .val (.int p3), .val (.int p4), .val (.int cd1), .val (.int ch1), .val (.int ch2), .val (.int cd2), .val (.int ch3), .val (.int ch4), .val (.int cd3), .val (.int ch5), .val (.int ch6), .val (.int cd4), .unset, .unset, .unset, .unset, .unset, .unset, .unset, .unset, .unset, .unset, .unset] [(.int ch3)])) (fun _ k => XS.iload X0.here hx rfl (hb hby at_89) rfl k) ?_
  refine GlW.pre (B := s₁.setTop (mkF m 92 #[.val (.int p1), .val (.int p2), .val (.int p3), .val (.int p4), .val (.int cd1), .val (.int ch1), .val (.int ch2), .val (.int cd2), .val (.int ch3), .val (.int ch4), .val (.int cd3), .val (.int ch5), .val (.int ch6), .val (.int cd4), .unset, .unset, .unset, .unset, .unset, .unset, .unset, .unset, .unset, .unset, .unset] [(.int p4), (.int ch3)])) (fun _ k => XS.iloadN X0.here hx rfl (hb hby at_91) rfl k) ?_
  refine GlW.pre (B := s₁.setTop (mkF m 93 #[.val (.int p1), .val (.int p2), .val (.int p3), .val (.int p4), .val (.int cd1), .val (.int ch1), .val (.int ch2), .val (.int cd2), .val (.int ch3), .val (.int ch4), .val (.int cd3), .val (.int ch5), .val (.int ch6), .val (.int cd4), .unset, .unset, .unset, .unset, .unset, .unset, .unset, .unset, .unset, .unset, .unset] [(.int (2 : Int32)), (.int p4), (.int ch3)])) (fun _ k => XS.iconst X0.here hx rfl (hb hby at_92) k) ?_
  refine GlW.pre (B := s₁.setTop (mkF m 94 #[.val (.int p1), .val (.int p2), .val (.int p3), .val (.int p4), .val (.int cd1), .val (.int ch1), .val (.int ch2), .val (.int cd2), .val (.int ch3), .val (.int ch4), .val (.int cd3), .val (.int ch5), .val (.int ch6), .val (.int cd4), .unset, .unset, .unset, .unset, .unset, .unset, .unset, .unset, .unset, .unset, .unset] [(.int ((p4.toUInt32 >>> ((2 : Int32) &&& 31).toUInt32).toInt32)), (.int ch3)])) (fun _ k => XS.iushr X0.here hx rfl (hb hby at_93) rfl k) ?_
  refine GlW.pre (B := s₁.setTop (mkF m 97 #[.val (.int p1), .val (.int p2), .val (.int p3), .val (.int p4), .val (.int cd1), .val (.int ch1), .val (.int ch2), .val (.int cd2), .val (.int ch3), .val (.int ch4), .val (.int cd3), .val (.int ch5), .val (.int ch6), .val (.int cd4), .unset, .unset, .unset, .unset, .unset, .unset, .unset, .unset, .unset, .unset, .unset] [(.int (255 : Int32)), (.int ((p4.toUInt32 >>> ((2 : Int32) &&& 31).toUInt32).toInt32)), (.int ch3)])) (fun _ k => XS.sipush X0.here hx rfl (hb hby at_94) k) ?_
  refine GlW.pre (B := s₁.setTop (mkF m 98 #[.val (.int p1), .val (.int p2), .val (.int p3), .val (.int p4), .val (.int cd1), .val (.int ch1), .val (.int ch2), .val (.int cd2), .val (.int ch3), .val (.int ch4), .val (.int cd3), .val (.int ch5), .val (.int ch6), .val (.int cd4), .unset, .unset, .unset, .unset, .unset, .unset, .unset, .unset, .unset, .unset, .unset] [(.int (((p4.toUInt32 >>> ((2 : Int32) &&& 31).toUInt32).toInt32) &&& (255 : Int32))), (.int ch3)])) (fun _ k => XS.iand X0.here hx rfl (hb hby at_97) rfl k) ?_
  refine GlW.pre (B := s₁.setTop (mkF m 99 #[.val (.int p1), .val (.int p2), .val (.int p3), .val (.int p4), .val (.int cd1), .val (.int ch1), .val (.int ch2), .val (.int cd2), .val (.int ch3), .val (.int ch4), .val (.int cd3), .val (.int ch5), .val (.int ch6), .val (.int cd4), .unset, .unset, .unset, .unset, .unset, .unset, .unset, .unset, .unset, .unset, .unset] [(.int (ch3 ^^^ (((p4.toUInt32 >>> ((2 : Int32) &&& 31).toUInt32).toInt32) &&& (255 : Int32))))])) (fun _ k => XS.ixor X0.here hx rfl (hb hby at_98) rfl k) ?_
  refine GlW.pre (B := s₁.setTop (mkF m 100 #[.val (.int p1), .val (.int p2), .val (.int p3), .val (.int p4), .val (.int cd1), .val (.int ch1), .val (.int ch2), .val (.int cd2), .val (.int ch3), .val (.int ch4), .val (.int cd3), .val (.int ch5), .val (.int ch6), .val (.int cd4), .unset, .unset, .unset, .unset, .unset, .unset, .unset, .unset, .unset, .unset, .unset] [(.int ((ch3 ^^^ (((p4.toUInt32 >>> ((2 : Int32) &&& 31).toUInt32).toInt32) &&& (255 : Int32))).toUInt32.toUInt16.toUInt32.toInt32))])) (fun _ k => XS.i2c X0.here hx rfl (hb hby at_99) rfl k) ?_
  refine GlW.pre (B := s₁.setTop (mkF m 102 #[.val (.int p1), .val (.int p2), .val (.int p3), .val (.int p4), .val (.int cd1), .val (.int ch1), .val (.int ch2), .val (.int cd2), .val (.int ch3), .val (.int ch4), .val (.int cd3), .val (.int ch5), .val (.int ch6), .val (.int cd4), .val (.int ((ch3 ^^^ (((p4.toUInt32 >>> ((2 : Int32) &&& 31).toUInt32).toInt32) &&& (255 : Int32))).toUInt32.toUInt16.toUInt32.toInt32)), .unset, .unset, .unset, .unset, .unset, .unset, .unset, .unset, .unset, .unset] [])) (fun _ k => XS.istore X0.here hx rfl (hb hby at_100) rfl (l' := #[.val (.int p1), .val (.int p2), .val (.int p3), .val (.int p4), .val (.int cd1), .val (.int ch1), .val (.int ch2), .val (.int cd2), .val (.int ch3), .val (.int ch4), .val (.int cd3), .val (.int ch5), .val (.int ch6), .val (.int cd4), .val (.int ((ch3 ^^^ (((p4.toUInt32 >>> ((2 : Int32) &&& 31).toUInt32).toInt32) &&& (255 : Int32))).toUInt32.toUInt16.toUInt32.toInt32)), .unset, .unset, .unset, .unset, .unset, .unset, .unset, .unset, .unset, .unset]) rfl k) ?_
  generalize h_ch7 : ((ch3 ^^^ (((p4.toUInt32 >>> ((2 : Int32) &&& 31).toUInt32).toInt32) &&& (255 : Int32))).toUInt32.toUInt16.toUInt32.toInt32) = ch7
  refine GlW.pre (B := s₁.setTop (mkF m 104 #[.val (.int p1), .val (.int p2), .val (.int p3), .val (.int p4), .val (.int cd1), .val (.int ch1), .val (.int ch2), .val (.int cd2), .val (.int ch3), .val (.int ch4), .val (.int cd3), .val (.int ch5), .val (.int ch6), .val (.int cd4), .val (.int ch7), .unset, .unset, .unset, .unset, .unset, .unset, .unset, .unset, .unset, .unset] [(.int ch4)])) (fun _ k => XS.iload X0.here hx rfl (hb hby at_102) rfl k) ?_
  refine GlW.pre (B := s₁.setTop (mkF m 105 #[.val (.int p1), .val (.int p2), .val (.int p3), .val (.int p4), .val (.int cd1), .val (.int ch1), .val (.int ch2), .val (.int cd2), .val (.int ch3), .val (.int ch4), .val (.int cd3), .val (.int ch5), .val (.int ch6), .val (.int cd4), .val (.int ch7), .unset, .unset, .unset, .unset, .unset, .unset, .unset, .unset, .unset, .unset] [(.int p4), (.int ch4)])) (fun _ k => XS.iloadN X0.here hx rfl (hb hby at_104) rfl k) ?_
  refine GlW.pre (B := s₁.setTop (mkF m 107 #[.val (.int p1), .val (.int p2), .val (.int p3), .val (.int p4), .val (.int cd1), .val (.int ch1), .val (.int ch2), .val (.int cd2), .val (.int ch3), .val (.int ch4), .val (.int cd3), .val (.int ch5), .val (.int ch6), .val (.int cd4), .val (.int ch7), .unset, .unset, .unset, .unset, .unset, .unset, .unset, .unset, .unset, .unset] [(.int (10 : Int32)), (.int p4), (.int ch4)])) (fun _ k => XS.bipush X0.here hx rfl (hb hby at_105) k) ?_
  refine GlW.pre (B := s₁.setTop (mkF m 108 #[.val (.int p1), .val (.int p2), .val (.int p3), .val (.int p4), .val (.int cd1), .val (.int ch1), .val (.int ch2), .val (.int cd2), .val (.int ch3), .val (.int ch4), .val (.int cd3), .val (.int ch5), .val (.int ch6), .val (.int cd4), .val (.int ch7), .unset, .unset, .unset, .unset, .unset, .unset, .unset, .unset, .unset, .unset] [(.int ((p4.toUInt32 >>> ((10 : Int32) &&& 31).toUInt32).toInt32)), (.int ch4)])) (fun _ k => XS.iushr X0.here hx rfl (hb hby at_107) rfl k) ?_
  refine GlW.pre (B := s₁.setTop (mkF m 111 #[.val (.int p1), .val (.int p2), .val (.int p3), .val (.int p4), .val (.int cd1), .val (.int ch1), .val (.int ch2), .val (.int cd2), .val (.int ch3), .val (.int ch4), .val (.int cd3), .val (.int ch5), .val (.int ch6), .val (.int cd4), .val (.int ch7), .unset, .unset, .unset, .unset, .unset, .unset, .unset, .unset, .unset, .unset] [(.int (255 : Int32)), (.int ((p4.toUInt32 >>> ((10 : Int32) &&& 31).toUInt32).toInt32)), (.int ch4)])) (fun _ k => XS.sipush X0.here hx rfl (hb hby at_108) k) ?_
  refine GlW.pre (B := s₁.setTop (mkF m 112 #[.val (.int p1), .val (.int p2), .val (.int p3), .val (.int p4), .val (.int cd1), .val (.int ch1), .val (.int ch2), .val (.int cd2), .val (.int ch3), .val (.int ch4), .val (.int cd3), .val (.int ch5), .val (.int ch6), .val (.int cd4), .val (.int ch7), .unset, .unset, .unset, .unset, .unset, .unset, .unset, .unset, .unset, .unset] [(.int (((p4.toUInt32 >>> ((10 : Int32) &&& 31).toUInt32).toInt32) &&& (255 : Int32))), (.int ch4)])) (fun _ k => XS.iand X0.here hx rfl (hb hby at_111) rfl k) ?_
  refine GlW.pre (B := s₁.setTop (mkF m 113 #[.val (.int p1), .val (.int p2), .val (.int p3), .val (.int p4), .val (.int cd1), .val (.int ch1), .val (.int ch2), .val (.int cd2), .val (.int ch3), .val (.int ch4), .val (.int cd3), .val (.int ch5), .val (.int ch6), .val (.int cd4), .val (.int ch7), .unset, .unset, .unset, .unset, .unset, .unset, .unset, .unset, .unset, .unset] [(.int (ch4 ^^^ (((p4.toUInt32 >>> ((10 : Int32) &&& 31).toUInt32).toInt32) &&& (255 : Int32))))])) (fun _ k => XS.ixor X0.here hx rfl (hb hby at_112) rfl k) ?_
  refine GlW.pre (B := s₁.setTop (mkF m 114 #[.val (.int p1), .val (.int p2), .val (.int p3), .val (.int p4), .val (.int cd1), .val (.int ch1), .val (.int ch2), .val (.int cd2), .val (.int ch3), .val (.int ch4), .val (.int cd3), .val (.int ch5), .val (.int ch6), .val (.int cd4), .val (.int ch7), .unset, .unset, .unset, .unset, .unset, .unset, .unset, .unset, .unset, .unset] [(.int ((ch4 ^^^ (((p4.toUInt32 >>> ((10 : Int32) &&& 31).toUInt32).toInt32) &&& (255 : Int32))).toUInt32.toUInt16.toUInt32.toInt32))])) (fun _ k => XS.i2c X0.here hx rfl (hb hby at_113) rfl k) ?_
  refine GlW.pre (B := s₁.setTop (mkF m 116 #[.val (.int p1), .val (.int p2), .val (.int p3), .val (.int p4), .val (.int cd1), .val (.int ch1), .val (.int ch2), .val (.int cd2), .val (.int ch3), .val (.int ch4), .val (.int cd3), .val (.int ch5), .val (.int ch6), .val (.int cd4), .val (.int ch7), .val (.int ((ch4 ^^^ (((p4.toUInt32 >>> ((10 : Int32) &&& 31).toUInt32).toInt32) &&& (255 : Int32))).toUInt32.toUInt16.toUInt32.toInt32)), .unset, .unset, .unset, .unset, .unset, .unset, .unset, .unset, .unset] [])) (fun _ k => XS.istore X0.here hx rfl (hb hby at_114) rfl (l' := #[.val (.int p1), .val (.int p2), .val (.int p3), .val (.int p4), .val (.int cd1), .val (.int ch1), .val (.int ch2), .val (.int cd2), .val (.int ch3), .val (.int ch4), .val (.int cd3), .val (.int ch5), .val (.int ch6), .val (.int cd4), .val (.int ch7), .val (.int ((ch4 ^^^ (((p4.toUInt32 >>> ((10 : Int32) &&& 31).toUInt32).toInt32) &&& (255 : Int32))).toUInt32.toUInt16.toUInt32.toInt32)), .unset, .unset, .unset, .unset, .unset, .unset, .unset, .unset, .unset]) rfl k) ?_
  generalize h_ch8 : ((ch4 ^^^ (((p4.toUInt32 >>> ((10 : Int32) &&& 31).toUInt32).toInt32) &&& (255 : Int32))).toUInt32.toUInt16.toUInt32.toInt32) = ch8
  have r_cd1 : cd1 = 0 ∨ cd1 = 1 ∨ cd1 = 2 ∨ cd1 = 3 := h_cd1 ▸ and3 _
  have r_cd2 : cd2 = 0 ∨ cd2 = 1 ∨ cd2 = 2 ∨ cd2 = 3 := h_cd2 ▸ and3 _
  have r_cd3 : cd3 = 0 ∨ cd3 = 1 ∨ cd3 = 2 ∨ cd3 = 3 := h_cd3 ▸ and3 _
  have r_cd4 : cd4 = 0 ∨ cd4 = 1 ∨ cd4 = 2 ∨ cd4 = 3 := h_cd4 ▸ and3 _
  have r_ch1 : ¬ ch1 < 0 ∧ ¬ (255 : Int32) < ch1 := h_ch1 ▸ rng_mask _
  have r_ch2 : ¬ ch2 < 0 ∧ ¬ (255 : Int32) < ch2 := h_ch2 ▸ rng_mask _
  have r_ch3 : ¬ ch3 < 0 ∧ ¬ (255 : Int32) < ch3 := h_ch3 ▸ rng_mask _
  have r_ch4 : ¬ ch4 < 0 ∧ ¬ (255 : Int32) < ch4 := h_ch4 ▸ rng_mask _
  have r_ch5 : ¬ ch5 < 0 ∧ ¬ (255 : Int32) < ch5 := h_ch5 ▸ rng_xor r_ch1 _
  have r_ch6 : ¬ ch6 < 0 ∧ ¬ (255 : Int32) < ch6 := h_ch6 ▸ rng_xor r_ch2 _
  have r_ch7 : ¬ ch7 < 0 ∧ ¬ (255 : Int32) < ch7 := h_ch7 ▸ rng_xor r_ch3 _
  have r_ch8 : ¬ ch8 < 0 ∧ ¬ (255 : Int32) < ch8 := h_ch8 ▸ rng_xor r_ch4 _
  refine GlW.pre (B := s₁.setTop (mkF m 118 #[.val (.int p1), .val (.int p2), .val (.int p3), .val (.int p4), .val (.int cd1), .val (.int ch1), .val (.int ch2), .val (.int cd2), .val (.int ch3), .val (.int ch4), .val (.int cd3), .val (.int ch5), .val (.int ch6), .val (.int cd4), .val (.int ch7), .val (.int ch8), .unset, .unset, .unset, .unset, .unset, .unset, .unset, .unset, .unset] [(.int cd1)])) (fun _ k => XS.iload X0.here hx rfl (hb hby at_116) rfl k) ?_
  refine GlW.pre (B := s₁.setTop (mkF m 120 #[.val (.int p1), .val (.int p2), .val (.int p3), .val (.int p4), .val (.int cd1), .val (.int ch1), .val (.int ch2), .val (.int cd2), .val (.int ch3), .val (.int ch4), .val (.int cd3), .val (.int ch5), .val (.int ch6), .val (.int cd4), .val (.int ch7), .val (.int ch8), .unset, .unset, .unset, .unset, .unset, .unset, .unset, .unset, .unset] [(.int ch1), (.int cd1)])) (fun _ k => XS.iload X0.here hx rfl (hb hby at_118) rfl k) ?_
  refine GlW.pre (B := s₁.setTop (mkF m 122 #[.val (.int p1), .val (.int p2), .val (.int p3), .val (.int p4), .val (.int cd1), .val (.int ch1), .val (.int ch2), .val (.int cd2), .val (.int ch3), .val (.int ch4), .val (.int cd3), .val (.int ch5), .val (.int ch6), .val (.int cd4), .val (.int ch7), .val (.int ch8), .unset, .unset, .unset, .unset, .unset, .unset, .unset, .unset, .unset] [(.int ch2), (.int ch1), (.int cd1)])) (fun _ k => XS.iload X0.here hx rfl (hb hby at_120) rfl k) ?_
  obtain ⟨rv1, _, ⟨T1, L1, k1, n1⟩, -, X1, Sg1, Gg1, ⟨Lc1, hQ1, l1, y1, z1, C1⟩, st1⟩ := callSS X0 hx (y := (⟨"com/example/tranquility/tranquility/NameTestMatchesPinLaw", "make", "(ICC)Ljava/lang/String;"⟩ : MethodName)) hown (mvT hZ (hw _ (List.mem_of_getElem? (i := 0) rfl))) (mvT hZ (hw _ (List.mem_of_getElem? (i := 1) rfl))) (mvT hZ (hw _ (List.mem_of_getElem? (i := 2) rfl))) (mvT hZ (hw _ (List.mem_of_getElem? (i := 3) rfl))) (by decide) (backOfSH (W := 0) (mk l Z a0 hw [] cd1 ch1 ch2 G1 h0 n0 Z0 r_ch1 r_ch2 (by assumption) (by assumption) Od) hZ (hw _ (List.mem_of_getElem? (i := 3) rfl)) (hw _ (List.mem_of_getElem? (i := 2) rfl)) (by decide) (by decide) hEL CR.1) (g := (mkF m 122 #[.val (.int p1), .val (.int p2), .val (.int p3), .val (.int p4), .val (.int cd1), .val (.int ch1), .val (.int ch2), .val (.int cd2), .val (.int ch3), .val (.int ch4), .val (.int cd3), .val (.int ch5), .val (.int ch6), .val (.int cd4), .val (.int ch7), .val (.int ch8), .unset, .unset, .unset, .unset, .unset, .unset, .unset, .unset, .unset] [(.int ch2), (.int ch1), (.int cd1)])) rfl (by rw [hml]; rfl) (argsL := [(.int cd1), (.int ch1), (.int ch2)]) (rest := []) (lenOf pd_4 rfl) rfl (by show 2 * 0 + _ ≤ _; exact Nat.le_of_eq rfl) (hb hby at_122) (fun _ _ => ⟨rfl, e0, (by decide : 0 + 6 ≤ _), (by decide : 0 + 12 ≤ _)⟩)
  dsimp only [Pt.U, Pt.locs, Pt.cells, Pt.slots] at X1 Sg1 Gg1 l1 y1 z1 C1 st1 hQ1
  subst l1 y1 z1
  obtain ⟨X1, hS1, hZ1, ho1⟩ := rebS hS0 (show _ ≤ s₁.heap.size from e0 ▸ hk0) X1 Sg1 Gg1 hZ hown
  have hk1 := Nat.le_refl T1.heap.size
  obtain ⟨vr_1, rfl, N1q, K1, so_1⟩ := hQ1
  have N1 := Fr.app N0 N1q
  have CR_q := CR.trans C1
  have Z0 := Nat.le_trans Z0 K1.1
  have Od := Od.keep K1 all0
  have CR := CR_q
  refine GlW.pre (B := T1.setTop (mkF m 125 #[.val (.int p1), .val (.int p2), .val (.int p3), .val (.int p4), .val (.int cd1), .val (.int ch1), .val (.int ch2), .val (.int cd2), .val (.int ch3), .val (.int ch4), .val (.int cd3), .val (.int ch5), .val (.int ch6), .val (.int cd4), .val (.int ch7), .val (.int ch8), .unset, .unset, .unset, .unset, .unset, .unset, .unset, .unset, .unset] [vr_1])) (fun _ k => st1.trans k) ?_
  refine GlW.pre (B := T1.setTop (mkF m 127 #[.val (.int p1), .val (.int p2), .val (.int p3), .val (.int p4), .val (.int cd1), .val (.int ch1), .val (.int ch2), .val (.int cd2), .val (.int ch3), .val (.int ch4), .val (.int cd3), .val (.int ch5), .val (.int ch6), .val (.int cd4), .val (.int ch7), .val (.int ch8), .val vr_1, .unset, .unset, .unset, .unset, .unset, .unset, .unset, .unset] [])) (fun _ k => XS.astoreS X1.here hx rfl (hb hby at_125) rfl so_1.isRef (XT.cat1 so_1.isRef) rfl (Or.inl rfl) k) ?_
  refine GlW.pre (B := T1.setTop (mkF m 129 #[.val (.int p1), .val (.int p2), .val (.int p3), .val (.int p4), .val (.int cd1), .val (.int ch1), .val (.int ch2), .val (.int cd2), .val (.int ch3), .val (.int ch4), .val (.int cd3), .val (.int ch5), .val (.int ch6), .val (.int cd4), .val (.int ch7), .val (.int ch8), .val vr_1, .unset, .unset, .unset, .unset, .unset, .unset, .unset, .unset] [(.int cd2)])) (fun _ k => XS.iload X1.here hx rfl (hb hby at_127) rfl k) ?_
  refine GlW.pre (B := T1.setTop (mkF m 131 #[.val (.int p1), .val (.int p2), .val (.int p3), .val (.int p4), .val (.int cd1), .val (.int ch1), .val (.int ch2), .val (.int cd2), .val (.int ch3), .val (.int ch4), .val (.int cd3), .val (.int ch5), .val (.int ch6), .val (.int cd4), .val (.int ch7), .val (.int ch8), .val vr_1, .unset, .unset, .unset, .unset, .unset, .unset, .unset, .unset] [(.int ch3), (.int cd2)])) (fun _ k => XS.iload X1.here hx rfl (hb hby at_129) rfl k) ?_
  refine GlW.pre (B := T1.setTop (mkF m 133 #[.val (.int p1), .val (.int p2), .val (.int p3), .val (.int p4), .val (.int cd1), .val (.int ch1), .val (.int ch2), .val (.int cd2), .val (.int ch3), .val (.int ch4), .val (.int cd3), .val (.int ch5), .val (.int ch6), .val (.int cd4), .val (.int ch7), .val (.int ch8), .val vr_1, .unset, .unset, .unset, .unset, .unset, .unset, .unset, .unset] [(.int ch4), (.int ch3), (.int cd2)])) (fun _ k => XS.iload X1.here hx rfl (hb hby at_131) rfl k) ?_
  obtain ⟨rv2, _, ⟨T2, L2, k2, n2⟩, -, X2, Sg2, Gg2, ⟨Lc2, hQ2, l2, y2, z2, C2⟩, st2⟩ := callSS X1 hx (y := (⟨"com/example/tranquility/tranquility/NameTestMatchesPinLaw", "make", "(ICC)Ljava/lang/String;"⟩ : MethodName)) ho1 (mvT hZ1 (hw _ (List.mem_of_getElem? (i := 0) rfl))) (mvT hZ1 (hw _ (List.mem_of_getElem? (i := 1) rfl))) (mvT hZ1 (hw _ (List.mem_of_getElem? (i := 2) rfl))) (mvT hZ1 (hw _ (List.mem_of_getElem? (i := 3) rfl))) (by decide) (backOfSH (W := 0) (mk l Z a0 hw [] cd2 ch3 ch4 G1 T1.heap n0 Z0 r_ch3 r_ch4 (by assumption) (by assumption) Od) hZ1 (hw _ (List.mem_of_getElem? (i := 3) rfl)) (hw _ (List.mem_of_getElem? (i := 2) rfl)) (by decide) (by decide) hEL CR.1) (g := (mkF m 133 #[.val (.int p1), .val (.int p2), .val (.int p3), .val (.int p4), .val (.int cd1), .val (.int ch1), .val (.int ch2), .val (.int cd2), .val (.int ch3), .val (.int ch4), .val (.int cd3), .val (.int ch5), .val (.int ch6), .val (.int cd4), .val (.int ch7), .val (.int ch8), .val vr_1, .unset, .unset, .unset, .unset, .unset, .unset, .unset, .unset] [(.int ch4), (.int ch3), (.int cd2)])) rfl (by rw [hml]; rfl) (argsL := [(.int cd2), (.int ch3), (.int ch4)]) (rest := []) (lenOf pd_4 rfl) rfl (by show 2 * 0 + _ ≤ _; exact Nat.le_of_eq rfl) (hb hby at_133) (fun _ _ => ⟨rfl, rfl, (by decide : 6 + 6 ≤ _), (by decide : 12 + 12 ≤ _)⟩)
  dsimp only [Pt.U, Pt.locs, Pt.cells, Pt.slots] at X2 Sg2 Gg2 l2 y2 z2 C2 st2 hQ2
  subst l2 y2 z2
  obtain ⟨X2, hS2, hZ2, ho2⟩ := rebS hS1 hk1 X2 Sg2 Gg2 hZ1 ho1
  have hk2 := Nat.le_refl T2.heap.size
  obtain ⟨vr_2, rfl, N2q, K2, so_2⟩ := hQ2
  have N2 := Fr.app N1 N2q
  have CR_q := CR.trans C2
  have Z0 := Nat.le_trans Z0 K2.1
  have Od := Od.keep K2 all0
  have CR := CR_q
  refine GlW.pre (B := T2.setTop (mkF m 136 #[.val (.int p1), .val (.int p2), .val (.int p3), .val (.int p4), .val (.int cd1), .val (.int ch1), .val (.int ch2), .val (.int cd2), .val (.int ch3), .val (.int ch4), .val (.int cd3), .val (.int ch5), .val (.int ch6), .val (.int cd4), .val (.int ch7), .val (.int ch8), .val vr_1, .unset, .unset, .unset, .unset, .unset, .unset, .unset, .unset] [vr_2])) (fun _ k => st2.trans k) ?_
  refine GlW.pre (B := T2.setTop (mkF m 138 #[.val (.int p1), .val (.int p2), .val (.int p3), .val (.int p4), .val (.int cd1), .val (.int ch1), .val (.int ch2), .val (.int cd2), .val (.int ch3), .val (.int ch4), .val (.int cd3), .val (.int ch5), .val (.int ch6), .val (.int cd4), .val (.int ch7), .val (.int ch8), .val vr_1, .val vr_2, .unset, .unset, .unset, .unset, .unset, .unset, .unset] [])) (fun _ k => XS.astoreS X2.here hx rfl (hb hby at_136) rfl so_2.isRef (XT.cat1 so_2.isRef) rfl (Or.inl rfl) k) ?_
  refine GlW.pre (B := T2.setTop (mkF m 140 #[.val (.int p1), .val (.int p2), .val (.int p3), .val (.int p4), .val (.int cd1), .val (.int ch1), .val (.int ch2), .val (.int cd2), .val (.int ch3), .val (.int ch4), .val (.int cd3), .val (.int ch5), .val (.int ch6), .val (.int cd4), .val (.int ch7), .val (.int ch8), .val vr_1, .val vr_2, .unset, .unset, .unset, .unset, .unset, .unset, .unset] [(.int cd3)])) (fun _ k => XS.iload X2.here hx rfl (hb hby at_138) rfl k) ?_
  refine GlW.pre (B := T2.setTop (mkF m 142 #[.val (.int p1), .val (.int p2), .val (.int p3), .val (.int p4), .val (.int cd1), .val (.int ch1), .val (.int ch2), .val (.int cd2), .val (.int ch3), .val (.int ch4), .val (.int cd3), .val (.int ch5), .val (.int ch6), .val (.int cd4), .val (.int ch7), .val (.int ch8), .val vr_1, .val vr_2, .unset, .unset, .unset, .unset, .unset, .unset, .unset] [(.int ch5), (.int cd3)])) (fun _ k => XS.iload X2.here hx rfl (hb hby at_140) rfl k) ?_
  refine GlW.pre (B := T2.setTop (mkF m 144 #[.val (.int p1), .val (.int p2), .val (.int p3), .val (.int p4), .val (.int cd1), .val (.int ch1), .val (.int ch2), .val (.int cd2), .val (.int ch3), .val (.int ch4), .val (.int cd3), .val (.int ch5), .val (.int ch6), .val (.int cd4), .val (.int ch7), .val (.int ch8), .val vr_1, .val vr_2, .unset, .unset, .unset, .unset, .unset, .unset, .unset] [(.int ch6), (.int ch5), (.int cd3)])) (fun _ k => XS.iload X2.here hx rfl (hb hby at_142) rfl k) ?_
  obtain ⟨rv3, _, ⟨T3, L3, k3, n3⟩, -, X3, Sg3, Gg3, ⟨Lc3, hQ3, l3, y3, z3, C3⟩, st3⟩ := callSS X2 hx (y := (⟨"com/example/tranquility/tranquility/NameTestMatchesPinLaw", "make", "(ICC)Ljava/lang/String;"⟩ : MethodName)) ho2 (mvT hZ2 (hw _ (List.mem_of_getElem? (i := 0) rfl))) (mvT hZ2 (hw _ (List.mem_of_getElem? (i := 1) rfl))) (mvT hZ2 (hw _ (List.mem_of_getElem? (i := 2) rfl))) (mvT hZ2 (hw _ (List.mem_of_getElem? (i := 3) rfl))) (by decide) (backOfSH (W := 0) (mk l Z a0 hw [] cd3 ch5 ch6 G1 T2.heap n0 Z0 r_ch5 r_ch6 (by assumption) (by assumption) Od) hZ2 (hw _ (List.mem_of_getElem? (i := 3) rfl)) (hw _ (List.mem_of_getElem? (i := 2) rfl)) (by decide) (by decide) hEL CR.1) (g := (mkF m 144 #[.val (.int p1), .val (.int p2), .val (.int p3), .val (.int p4), .val (.int cd1), .val (.int ch1), .val (.int ch2), .val (.int cd2), .val (.int ch3), .val (.int ch4), .val (.int cd3), .val (.int ch5), .val (.int ch6), .val (.int cd4), .val (.int ch7), .val (.int ch8), .val vr_1, .val vr_2, .unset, .unset, .unset, .unset, .unset, .unset, .unset] [(.int ch6), (.int ch5), (.int cd3)])) rfl (by rw [hml]; rfl) (argsL := [(.int cd3), (.int ch5), (.int ch6)]) (rest := []) (lenOf pd_4 rfl) rfl (by show 2 * 0 + _ ≤ _; exact Nat.le_of_eq rfl) (hb hby at_144) (fun _ _ => ⟨rfl, rfl, (by decide : 12 + 6 ≤ _), (by decide : 24 + 12 ≤ _)⟩)
  dsimp only [Pt.U, Pt.locs, Pt.cells, Pt.slots] at X3 Sg3 Gg3 l3 y3 z3 C3 st3 hQ3
  subst l3 y3 z3
  obtain ⟨X3, hS3, hZ3, ho3⟩ := rebS hS2 hk2 X3 Sg3 Gg3 hZ2 ho2
  have hk3 := Nat.le_refl T3.heap.size
  obtain ⟨vr_3, rfl, N3q, K3, so_3⟩ := hQ3
  have N3 := Fr.app N2 N3q
  have CR_q := CR.trans C3
  have Z0 := Nat.le_trans Z0 K3.1
  have Od := Od.keep K3 all0
  have CR := CR_q
  refine GlW.pre (B := T3.setTop (mkF m 147 #[.val (.int p1), .val (.int p2), .val (.int p3), .val (.int p4), .val (.int cd1), .val (.int ch1), .val (.int ch2), .val (.int cd2), .val (.int ch3), .val (.int ch4), .val (.int cd3), .val (.int ch5), .val (.int ch6), .val (.int cd4), .val (.int ch7), .val (.int ch8), .val vr_1, .val vr_2, .unset, .unset, .unset, .unset, .unset, .unset, .unset] [vr_3])) (fun _ k => st3.trans k) ?_
  refine GlW.pre (B := T3.setTop (mkF m 149 #[.val (.int p1), .val (.int p2), .val (.int p3), .val (.int p4), .val (.int cd1), .val (.int ch1), .val (.int ch2), .val (.int cd2), .val (.int ch3), .val (.int ch4), .val (.int cd3), .val (.int ch5), .val (.int ch6), .val (.int cd4), .val (.int ch7), .val (.int ch8), .val vr_1, .val vr_2, .val vr_3, .unset, .unset, .unset, .unset, .unset, .unset] [])) (fun _ k => XS.astoreS X3.here hx rfl (hb hby at_147) rfl so_3.isRef (XT.cat1 so_3.isRef) rfl (Or.inl rfl) k) ?_
  refine GlW.pre (B := T3.setTop (mkF m 151 #[.val (.int p1), .val (.int p2), .val (.int p3), .val (.int p4), .val (.int cd1), .val (.int ch1), .val (.int ch2), .val (.int cd2), .val (.int ch3), .val (.int ch4), .val (.int cd3), .val (.int ch5), .val (.int ch6), .val (.int cd4), .val (.int ch7), .val (.int ch8), .val vr_1, .val vr_2, .val vr_3, .unset, .unset, .unset, .unset, .unset, .unset] [(.int cd4)])) (fun _ k => XS.iload X3.here hx rfl (hb hby at_149) rfl k) ?_
  refine GlW.pre (B := T3.setTop (mkF m 153 #[.val (.int p1), .val (.int p2), .val (.int p3), .val (.int p4), .val (.int cd1), .val (.int ch1), .val (.int ch2), .val (.int cd2), .val (.int ch3), .val (.int ch4), .val (.int cd3), .val (.int ch5), .val (.int ch6), .val (.int cd4), .val (.int ch7), .val (.int ch8), .val vr_1, .val vr_2, .val vr_3, .unset, .unset, .unset, .unset, .unset, .unset] [(.int ch7), (.int cd4)])) (fun _ k => XS.iload X3.here hx rfl (hb hby at_151) rfl k) ?_
  refine GlW.pre (B := T3.setTop (mkF m 155 #[.val (.int p1), .val (.int p2), .val (.int p3), .val (.int p4), .val (.int cd1), .val (.int ch1), .val (.int ch2), .val (.int cd2), .val (.int ch3), .val (.int ch4), .val (.int cd3), .val (.int ch5), .val (.int ch6), .val (.int cd4), .val (.int ch7), .val (.int ch8), .val vr_1, .val vr_2, .val vr_3, .unset, .unset, .unset, .unset, .unset, .unset] [(.int ch8), (.int ch7), (.int cd4)])) (fun _ k => XS.iload X3.here hx rfl (hb hby at_153) rfl k) ?_
  obtain ⟨rv4, _, ⟨T4, L4, k4, n4⟩, -, X4, Sg4, Gg4, ⟨Lc4, hQ4, l4, y4, z4, C4⟩, st4⟩ := callSS X3 hx (y := (⟨"com/example/tranquility/tranquility/NameTestMatchesPinLaw", "make", "(ICC)Ljava/lang/String;"⟩ : MethodName)) ho3 (mvT hZ3 (hw _ (List.mem_of_getElem? (i := 0) rfl))) (mvT hZ3 (hw _ (List.mem_of_getElem? (i := 1) rfl))) (mvT hZ3 (hw _ (List.mem_of_getElem? (i := 2) rfl))) (mvT hZ3 (hw _ (List.mem_of_getElem? (i := 3) rfl))) (by decide) (backOfSH (W := 0) (mk l Z a0 hw [] cd4 ch7 ch8 G1 T3.heap n0 Z0 r_ch7 r_ch8 (by assumption) (by assumption) Od) hZ3 (hw _ (List.mem_of_getElem? (i := 3) rfl)) (hw _ (List.mem_of_getElem? (i := 2) rfl)) (by decide) (by decide) hEL CR.1) (g := (mkF m 155 #[.val (.int p1), .val (.int p2), .val (.int p3), .val (.int p4), .val (.int cd1), .val (.int ch1), .val (.int ch2), .val (.int cd2), .val (.int ch3), .val (.int ch4), .val (.int cd3), .val (.int ch5), .val (.int ch6), .val (.int cd4), .val (.int ch7), .val (.int ch8), .val vr_1, .val vr_2, .val vr_3, .unset, .unset, .unset, .unset, .unset, .unset] [(.int ch8), (.int ch7), (.int cd4)])) rfl (by rw [hml]; rfl) (argsL := [(.int cd4), (.int ch7), (.int ch8)]) (rest := []) (lenOf pd_4 rfl) rfl (by show 2 * 0 + _ ≤ _; exact Nat.le_of_eq rfl) (hb hby at_155) (fun _ _ => ⟨rfl, rfl, (by decide : 18 + 6 ≤ _), (by decide : 36 + 12 ≤ _)⟩)
  dsimp only [Pt.U, Pt.locs, Pt.cells, Pt.slots] at X4 Sg4 Gg4 l4 y4 z4 C4 st4 hQ4
  subst l4 y4 z4
  obtain ⟨X4, hS4, hZ4, ho4⟩ := rebS hS3 hk3 X4 Sg4 Gg4 hZ3 ho3
  have hk4 := Nat.le_refl T4.heap.size
  obtain ⟨vr_4, rfl, N4q, K4, so_4⟩ := hQ4
  have N4 := Fr.app N3 N4q
  have CR_q := CR.trans C4
  have Z0 := Nat.le_trans Z0 K4.1
  have Od := Od.keep K4 all0
  have CR := CR_q
  refine GlW.pre (B := T4.setTop (mkF m 158 #[.val (.int p1), .val (.int p2), .val (.int p3), .val (.int p4), .val (.int cd1), .val (.int ch1), .val (.int ch2), .val (.int cd2), .val (.int ch3), .val (.int ch4), .val (.int cd3), .val (.int ch5), .val (.int ch6), .val (.int cd4), .val (.int ch7), .val (.int ch8), .val vr_1, .val vr_2, .val vr_3, .unset, .unset, .unset, .unset, .unset, .unset] [vr_4])) (fun _ k => st4.trans k) ?_
  refine GlW.pre (B := T4.setTop (mkF m 160 #[.val (.int p1), .val (.int p2), .val (.int p3), .val (.int p4), .val (.int cd1), .val (.int ch1), .val (.int ch2), .val (.int cd2), .val (.int ch3), .val (.int ch4), .val (.int cd3), .val (.int ch5), .val (.int ch6), .val (.int cd4), .val (.int ch7), .val (.int ch8), .val vr_1, .val vr_2, .val vr_3, .val vr_4, .unset, .unset, .unset, .unset, .unset] [])) (fun _ k => XS.astoreS X4.here hx rfl (hb hby at_158) rfl so_4.isRef (XT.cat1 so_4.isRef) rfl (Or.inl rfl) k) ?_
  have so1 := (((so_1.ext (own_keep0 K2)).ext (own_keep0 K3)).ext (own_keep0 K4))
  have so2 := ((so_2.ext (own_keep0 K3)).ext (own_keep0 K4))
  have so3 := (so_3.ext (own_keep0 K4))
  have so4 := so_4
  have XH : Ext T4.heap T4.heap := own_ext_refl _
  obtain ⟨T5, h5, X5, e5, E5, A5, D5, -, st5⟩ := newO X4 hx hZ4 ho4 (hw _ (List.mem_of_getElem? (i := 37) rfl)) (hw _ (List.mem_of_getElem? (i := 38) rfl)) (hw _ (List.mem_of_getElem? (i := 39) rfl)) rfl (g := (mkF m 160 #[.val (.int p1), .val (.int p2), .val (.int p3), .val (.int p4), .val (.int cd1), .val (.int ch1), .val (.int ch2), .val (.int cd2), .val (.int ch3), .val (.int ch4), .val (.int cd3), .val (.int ch5), .val (.int ch6), .val (.int cd4), .val (.int ch7), .val (.int ch8), .val vr_1, .val vr_2, .val vr_3, .val vr_4, .unset, .unset, .unset, .unset, .unset] [])) rfl (hb hby at_160) (by decide) (by decide)
  obtain ⟨b5, g5⟩ : ∃ z, z = T4.heap.size := ⟨_, rfl⟩
  rw [← g5] at A5 D5 st5
  have g_b5 : n0 ≤ b5 := Nat.le_trans Z0 (Nat.le_of_eq g5.symm)
  have xg_XH_b5 : T4.heap.size ≤ b5 := Nat.le_trans XH.1 (Nat.le_of_eq g5.symm)
  have CR_q := CR.trans (CHr.ext E5 CR.1)
  have Z0 := Nat.le_trans Z0 E5.1
  have Od := Od.ext E5
  have XH := own_ext_ext XH E5
  have CR := CR_q
  have hk5 := Nat.le_trans hk4 E5.1
  have E_b5 := A5
  have F_namespace_b5 : Fld Z h5 b5 "com/example/tranquility/tranquility/LocationPath$NameTest" "namespace" "Ljava/lang/String;" .null := D5 (Or.inr (hw _ (List.mem_of_getElem? (i := 50) rfl))) (ty := (.object "java/lang/String")) (by decide)
  have F_localName_b5 : Fld Z h5 b5 "com/example/tranquility/tranquility/LocationPath$NameTest" "localName" "Ljava/lang/String;" .null := D5 (Or.inr (hw _ (List.mem_of_getElem? (i := 52) rfl))) (ty := (.object "java/lang/String")) (by decide)
  refine GlW.pre (B := T5.setTop (mkF m 163 #[.val (.int p1), .val (.int p2), .val (.int p3), .val (.int p4), .val (.int cd1), .val (.int ch1), .val (.int ch2), .val (.int cd2), .val (.int ch3), .val (.int ch4), .val (.int cd3), .val (.int ch5), .val (.int ch6), .val (.int cd4), .val (.int ch7), .val (.int ch8), .val vr_1, .val vr_2, .val vr_3, .val vr_4, .unset, .unset, .unset, .unset, .unset] [(.ref b5)])) (fun _ k => st5 _ k) ?_
  refine GlW.pre (B := T5.setTop (mkF m 164 #[.val (.int p1), .val (.int p2), .val (.int p3), .val (.int p4), .val (.int cd1), .val (.int ch1), .val (.int ch2), .val (.int cd2), .val (.int ch3), .val (.int ch4), .val (.int cd3), .val (.int ch5), .val (.int ch6), .val (.int cd4), .val (.int ch7), .val (.int ch8), .val vr_1, .val vr_2, .val vr_3, .val vr_4, .unset, .unset, .unset, .unset, .unset] [(.ref b5), (.ref b5)])) (fun _ k => XS.dup X5.here hx rfl (hb hby at_163) rfl rfl k) ?_
  refine GlW.pre (B := T5.setTop (mkF m 166 #[.val (.int p1), .val (.int p2), .val (.int p3), .val (.int p4), .val (.int cd1), .val (.int ch1), .val (.int ch2), .val (.int cd2), .val (.int ch3), .val (.int ch4), .val (.int cd3), .val (.int ch5), .val (.int ch6), .val (.int cd4), .val (.int ch7), .val (.int ch8), .val vr_1, .val vr_2, .val vr_3, .val vr_4, .unset, .unset, .unset, .unset, .unset] [vr_1, (.ref b5), (.ref b5)])) (fun _ k => XS.aload X5.here hx rfl (hb hby at_164) rfl so1.isRef k) ?_
  refine GlW.pre (B := T5.setTop (mkF m 168 #[.val (.int p1), .val (.int p2), .val (.int p3), .val (.int p4), .val (.int cd1), .val (.int ch1), .val (.int ch2), .val (.int cd2), .val (.int ch3), .val (.int ch4), .val (.int cd3), .val (.int ch5), .val (.int ch6), .val (.int cd4), .val (.int ch7), .val (.int ch8), .val vr_1, .val vr_2, .val vr_3, .val vr_4, .unset, .unset, .unset, .unset, .unset] [vr_2, vr_1, (.ref b5), (.ref b5)])) (fun _ k => XS.aload X5.here hx rfl (hb hby at_166) rfl so2.isRef k) ?_
  obtain ⟨rv6, _, ⟨T6, L6, k6, n6⟩, -, X6, ⟨Lc6, hQ6, l6, y6, z6⟩, st6⟩ := X5.specialBack hx (y := (⟨"com/example/tranquility/tranquility/LocationPath$NameTest", "<init>", "(Ljava/lang/String;Ljava/lang/String;)V"⟩ : MethodName)) rfl ho4 (mvT hZ4 (hw _ (List.mem_of_getElem? (i := 40) rfl))) (mvT hZ4 (hw _ (List.mem_of_getElem? (i := 41) rfl))) (mvT hZ4 (hw _ (List.mem_of_getElem? (i := 42) rfl))) (by decide) (backOf (W := 1) (ntInit l Z a0 hw [] b5 vr_1 vr_2 h5 n0 Z0 g_b5 E_b5 F_namespace_b5 F_localName_b5 so1.isRef so2.isRef) hZ4 (hw _ (List.mem_of_getElem? (i := 42) rfl)) (hw _ (List.mem_of_getElem? (i := 39) rfl)) (by decide) (by decide)) (g := (mkF m 168 #[.val (.int p1), .val (.int p2), .val (.int p3), .val (.int p4), .val (.int cd1), .val (.int ch1), .val (.int ch2), .val (.int cd2), .val (.int ch3), .val (.int ch4), .val (.int cd3), .val (.int ch5), .val (.int ch6), .val (.int cd4), .val (.int ch7), .val (.int ch8), .val vr_1, .val vr_2, .val vr_3, .val vr_4, .unset, .unset, .unset, .unset, .unset] [vr_2, vr_1, (.ref b5), (.ref b5)])) rfl (by rw [hml]; rfl) (Steps.refl _) (a := b5) (argsL := [vr_1, vr_2]) (rest := [(.ref b5)]) (lenOf pd_5 rfl) rfl (by show 2 * 0 + _ ≤ _; exact Nat.le_of_eq rfl) (hb hby at_168) (fun _ _ => ⟨rfl, e5, (by decide : 25 + 0 ≤ _), (by decide : 50 + 0 ≤ _)⟩)
  dsimp only [Pt.U, Pt.locs, Pt.cells, Pt.slots] at X6 l6 y6 z6 st6 hQ6
  subst l6 y6 z6
  obtain ⟨rfl, N6q, K6, F_n_6, F_l_6⟩ := hQ6
  have N6 := Fr.app N4 N6q
  have CR_q := CR.trans (CHr.keep K6 (sfS (Safe.exa hZ4.alike E_b5 (by decide) (by decide)) sf0) CR.1)
  have Z0 := Nat.le_trans Z0 K6.1
  have Od := Od.keep K6 (allS g_b5 all0)
  have XH := own_ext_keep XH K6 (allS xg_XH_b5 all0)
  have E_b5 := E_b5.keep K6
  have CR := CR_q
  have hk6 := Nat.le_trans hk5 K6.1
  refine GlW.pre (B := T6.setTop (mkF m 171 #[.val (.int p1), .val (.int p2), .val (.int p3), .val (.int p4), .val (.int cd1), .val (.int ch1), .val (.int ch2), .val (.int cd2), .val (.int ch3), .val (.int ch4), .val (.int cd3), .val (.int ch5), .val (.int ch6), .val (.int cd4), .val (.int ch7), .val (.int ch8), .val vr_1, .val vr_2, .val vr_3, .val vr_4, .unset, .unset, .unset, .unset, .unset] [(.ref b5)])) (fun _ k => st6.trans k) ?_
  refine GlW.pre (B := T6.setTop (mkF m 173 #[.val (.int p1), .val (.int p2), .val (.int p3), .val (.int p4), .val (.int cd1), .val (.int ch1), .val (.int ch2), .val (.int cd2), .val (.int ch3), .val (.int ch4), .val (.int cd3), .val (.int ch5), .val (.int ch6), .val (.int cd4), .val (.int ch7), .val (.int ch8), .val vr_1, .val vr_2, .val vr_3, .val vr_4, .val (.ref b5), .unset, .unset, .unset, .unset] [])) (fun _ k => XS.astore X6.here hx rfl (hb hby at_171) rfl rfl (l' := #[.val (.int p1), .val (.int p2), .val (.int p3), .val (.int p4), .val (.int cd1), .val (.int ch1), .val (.int ch2), .val (.int cd2), .val (.int ch3), .val (.int ch4), .val (.int cd3), .val (.int ch5), .val (.int ch6), .val (.int cd4), .val (.int ch7), .val (.int ch8), .val vr_1, .val vr_2, .val vr_3, .val vr_4, .val (.ref b5), .unset, .unset, .unset, .unset]) rfl k) ?_
  refine GlW.pre (B := T6.setTop (mkF m 175 #[.val (.int p1), .val (.int p2), .val (.int p3), .val (.int p4), .val (.int cd1), .val (.int ch1), .val (.int ch2), .val (.int cd2), .val (.int ch3), .val (.int ch4), .val (.int cd3), .val (.int ch5), .val (.int ch6), .val (.int cd4), .val (.int ch7), .val (.int ch8), .val vr_1, .val vr_2, .val vr_3, .val vr_4, .val (.ref b5), .unset, .unset, .unset, .unset] [(.ref b5)])) (fun _ k => XS.aload X6.here hx rfl (hb hby at_173) rfl rfl k) ?_
  refine GlW.pre (B := T6.setTop (mkF m 177 #[.val (.int p1), .val (.int p2), .val (.int p3), .val (.int p4), .val (.int cd1), .val (.int ch1), .val (.int ch2), .val (.int cd2), .val (.int ch3), .val (.int ch4), .val (.int cd3), .val (.int ch5), .val (.int ch6), .val (.int cd4), .val (.int ch7), .val (.int ch8), .val vr_1, .val vr_2, .val vr_3, .val vr_4, .val (.ref b5), .unset, .unset, .unset, .unset] [vr_3, (.ref b5)])) (fun _ k => XS.aload X6.here hx rfl (hb hby at_175) rfl so3.isRef k) ?_
  refine GlW.pre (B := T6.setTop (mkF m 179 #[.val (.int p1), .val (.int p2), .val (.int p3), .val (.int p4), .val (.int cd1), .val (.int ch1), .val (.int ch2), .val (.int cd2), .val (.int ch3), .val (.int ch4), .val (.int cd3), .val (.int ch5), .val (.int ch6), .val (.int cd4), .val (.int ch7), .val (.int ch8), .val vr_1, .val vr_2, .val vr_3, .val vr_4, .val (.ref b5), .unset, .unset, .unset, .unset] [vr_4, vr_3, (.ref b5)])) (fun _ k => XS.aload X6.here hx rfl (hb hby at_177) rfl so4.isRef k) ?_
  obtain ⟨cq7, kq7, q7a, q7b, q7c⟩ := isOf hZ4 rfl E_b5
  obtain ⟨rv7, _, ⟨T7, L7, k7, n7⟩, -, X7, ⟨Lc7, hQ7, l7, y7, z7⟩, st7⟩ := X6.virtualBack hx (y := (⟨"com/example/tranquility/tranquility/LocationPath$NameTest", "matches", "(Ljava/lang/String;Ljava/lang/String;)Z"⟩ : MethodName)) (z := (⟨"com/example/tranquility/tranquility/LocationPath$NameTest", "matches", "(Ljava/lang/String;Ljava/lang/String;)Z"⟩ : MethodName)) ho4 (mvT hZ4 (hw _ (List.mem_of_getElem? (i := 53) rfl))) (mvT hZ4 (hw _ (List.mem_of_getElem? (i := 54) rfl))) (notFace_of_selects (args := #[]) (mvT hZ4 (hw _ (List.mem_of_getElem? (i := 56) rfl)))) (mvT hZ4 (hw _ (List.mem_of_getElem? (i := 56) rfl))) (mvT hZ4 (hw _ (List.mem_of_getElem? (i := 55) rfl))) (by decide) (backOf (W := 0) (mtc l Z a0 hw [] b5 vr_3 vr_4 vr_1 vr_2 (mkO cd1 ch1 ch2) (mkO cd2 ch3 ch4) (mkO cd3 ch5 ch6) (mkO cd4 ch7 ch8) G1 T6.heap n0 Z0 F_n_6 F_l_6 (so1.ext XH) (so2.ext XH) (so3.ext XH) (so4.ext XH) (by assumption) (by assumption) Od) hZ4 (hw _ (List.mem_of_getElem? (i := 57) rfl)) (hw _ (List.mem_of_getElem? (i := 39) rfl)) (by decide) (by decide)) q7a q7c (g := (mkF m 179 #[.val (.int p1), .val (.int p2), .val (.int p3), .val (.int p4), .val (.int cd1), .val (.int ch1), .val (.int ch2), .val (.int cd2), .val (.int ch3), .val (.int ch4), .val (.int cd3), .val (.int ch5), .val (.int ch6), .val (.int cd4), .val (.int ch7), .val (.int ch8), .val vr_1, .val vr_2, .val vr_3, .val vr_4, .val (.ref b5), .unset, .unset, .unset, .unset] [vr_4, vr_3, (.ref b5)])) rfl (by rw [hml]; rfl) (Steps.refl _) (argsL := [vr_3, vr_4]) (rest := []) (lenOf pd_6 rfl) rfl (by show 2 * 0 + _ ≤ _; exact Nat.le_of_eq rfl) (hb hby at_179) (fun _ _ => ⟨rfl, rfl, (by decide : 25 + 0 ≤ _), (by decide : 50 + 0 ≤ _)⟩)
  dsimp only [Pt.U, Pt.locs, Pt.cells, Pt.slots] at X7 l7 y7 z7 st7 hQ7
  subst l7 y7 z7
  obtain ⟨rfl, N7q, e7⟩ := hQ7
  have N7 := Fr.app N6 N7q
  refine GlW.pre (B := T7.setTop (mkF m 182 #[.val (.int p1), .val (.int p2), .val (.int p3), .val (.int p4), .val (.int cd1), .val (.int ch1), .val (.int ch2), .val (.int cd2), .val (.int ch3), .val (.int ch4), .val (.int cd3), .val (.int ch5), .val (.int ch6), .val (.int cd4), .val (.int ch7), .val (.int ch8), .val vr_1, .val vr_2, .val vr_3, .val vr_4, .val (.ref b5), .unset, .unset, .unset, .unset] [(.int (bI (mt (mkO cd1 ch1 ch2) (mkO cd2 ch3 ch4) (mkO cd3 ch5 ch6) (mkO cd4 ch7 ch8))))])) (fun _ k => st7.trans k) ?_
  refine GlW.pre (B := T7.setTop (mkF m 184 #[.val (.int p1), .val (.int p2), .val (.int p3), .val (.int p4), .val (.int cd1), .val (.int ch1), .val (.int ch2), .val (.int cd2), .val (.int ch3), .val (.int ch4), .val (.int cd3), .val (.int ch5), .val (.int ch6), .val (.int cd4), .val (.int ch7), .val (.int ch8), .val vr_1, .val vr_2, .val vr_3, .val vr_4, .val (.ref b5), .val (.int (bI (mt (mkO cd1 ch1 ch2) (mkO cd2 ch3 ch4) (mkO cd3 ch5 ch6) (mkO cd4 ch7 ch8)))), .unset, .unset, .unset] [])) (fun _ k => XS.istore X7.here hx rfl (hb hby at_182) rfl (l' := #[.val (.int p1), .val (.int p2), .val (.int p3), .val (.int p4), .val (.int cd1), .val (.int ch1), .val (.int ch2), .val (.int cd2), .val (.int ch3), .val (.int ch4), .val (.int cd3), .val (.int ch5), .val (.int ch6), .val (.int cd4), .val (.int ch7), .val (.int ch8), .val vr_1, .val vr_2, .val vr_3, .val vr_4, .val (.ref b5), .val (.int (bI (mt (mkO cd1 ch1 ch2) (mkO cd2 ch3 ch4) (mkO cd3 ch5 ch6) (mkO cd4 ch7 ch8)))), .unset, .unset, .unset]) rfl k) ?_
  refine GlW.pre (B := T7.setTop (mkF m 186 #[.val (.int p1), .val (.int p2), .val (.int p3), .val (.int p4), .val (.int cd1), .val (.int ch1), .val (.int ch2), .val (.int cd2), .val (.int ch3), .val (.int ch4), .val (.int cd3), .val (.int ch5), .val (.int ch6), .val (.int cd4), .val (.int ch7), .val (.int ch8), .val vr_1, .val vr_2, .val vr_3, .val vr_4, .val (.ref b5), .val (.int (bI (mt (mkO cd1 ch1 ch2) (mkO cd2 ch3 ch4) (mkO cd3 ch5 ch6) (mkO cd4 ch7 ch8)))), .unset, .unset, .unset] [(.int cd1)])) (fun _ k => XS.iload X7.here hx rfl (hb hby at_184) rfl k) ?_
  refine GlW.pre (B := T7.setTop (mkF m 187 #[.val (.int p1), .val (.int p2), .val (.int p3), .val (.int p4), .val (.int cd1), .val (.int ch1), .val (.int ch2), .val (.int cd2), .val (.int ch3), .val (.int ch4), .val (.int cd3), .val (.int ch5), .val (.int ch6), .val (.int cd4), .val (.int ch7), .val (.int ch8), .val vr_1, .val vr_2, .val vr_3, .val vr_4, .val (.ref b5), .val (.int (bI (mt (mkO cd1 ch1 ch2) (mkO cd2 ch3 ch4) (mkO cd3 ch5 ch6) (mkO cd4 ch7 ch8)))), .unset, .unset, .unset] [(.int (3 : Int32)), (.int cd1)])) (fun _ k => XS.iconst X7.here hx rfl (hb hby at_186) k) ?_
  by_cases hc187_8 : cd1 = (3 : Int32)
  · refine GlW.pre (B := T7.setTop (mkF m 208 #[.val (.int p1), .val (.int p2), .val (.int p3), .val (.int p4), .val (.int cd1), .val (.int ch1), .val (.int ch2), .val (.int cd2), .val (.int ch3), .val (.int ch4), .val (.int cd3), .val (.int ch5), .val (.int ch6), .val (.int cd4), .val (.int ch7), .val (.int ch8), .val vr_1, .val vr_2, .val vr_3, .val vr_4, .val (.ref b5), .val (.int (bI (mt (mkO cd1 ch1 ch2) (mkO cd2 ch3 ch4) (mkO cd3 ch5 ch6) (mkO cd4 ch7 ch8)))), .unset, .unset, .unset] [])) (fun _ k => XS.icmpYes X7.here hx rfl (pc0 := 187) (pc' := 208) rfl (hb hby at_187) rfl (teq hc187_8).1 (by decide) (by decide) k) ?_
    refine GlW.pre (B := T7.setTop (mkF m 209 #[.val (.int p1), .val (.int p2), .val (.int p3), .val (.int p4), .val (.int cd1), .val (.int ch1), .val (.int ch2), .val (.int cd2), .val (.int ch3), .val (.int ch4), .val (.int cd3), .val (.int ch5), .val (.int ch6), .val (.int cd4), .val (.int ch7), .val (.int ch8), .val vr_1, .val vr_2, .val vr_3, .val vr_4, .val (.ref b5), .val (.int (bI (mt (mkO cd1 ch1 ch2) (mkO cd2 ch3 ch4) (mkO cd3 ch5 ch6) (mkO cd4 ch7 ch8)))), .unset, .unset, .unset] [(.int (1 : Int32))])) (fun _ k => XS.iconst X7.here hx rfl (hb hby at_208) k) ?_
    refine GlW.pre (B := T7.setTop (mkF m 213 #[.val (.int p1), .val (.int p2), .val (.int p3), .val (.int p4), .val (.int cd1), .val (.int ch1), .val (.int ch2), .val (.int cd2), .val (.int ch3), .val (.int ch4), .val (.int cd3), .val (.int ch5), .val (.int ch6), .val (.int cd4), .val (.int ch7), .val (.int ch8), .val vr_1, .val vr_2, .val vr_3, .val vr_4, .val (.ref b5), .val (.int (bI (mt (mkO cd1 ch1 ch2) (mkO cd2 ch3 ch4) (mkO cd3 ch5 ch6) (mkO cd4 ch7 ch8)))), .unset, .unset, .unset] [(.int (1 : Int32))])) (fun _ k => XS.goto X7.here hx rfl (pc0 := 209) (pc' := 213) rfl (hb hby at_209) (by decide) (by decide) k) ?_
    refine GlW.pre (B := T7.setTop (mkF m 215 #[.val (.int p1), .val (.int p2), .val (.int p3), .val (.int p4), .val (.int cd1), .val (.int ch1), .val (.int ch2), .val (.int cd2), .val (.int ch3), .val (.int ch4), .val (.int cd3), .val (.int ch5), .val (.int ch6), .val (.int cd4), .val (.int ch7), .val (.int ch8), .val vr_1, .val vr_2, .val vr_3, .val vr_4, .val (.ref b5), .val (.int (bI (mt (mkO cd1 ch1 ch2) (mkO cd2 ch3 ch4) (mkO cd3 ch5 ch6) (mkO cd4 ch7 ch8)))), .val (.int (1 : Int32)), .unset, .unset] [])) (fun _ k => XS.istore X7.here hx rfl (hb hby at_213) rfl (l' := #[.val (.int p1), .val (.int p2), .val (.int p3), .val (.int p4), .val (.int cd1), .val (.int ch1), .val (.int ch2), .val (.int cd2), .val (.int ch3), .val (.int ch4), .val (.int cd3), .val (.int ch5), .val (.int ch6), .val (.int cd4), .val (.int ch7), .val (.int ch8), .val vr_1, .val vr_2, .val vr_3, .val vr_4, .val (.ref b5), .val (.int (bI (mt (mkO cd1 ch1 ch2) (mkO cd2 ch3 ch4) (mkO cd3 ch5 ch6) (mkO cd4 ch7 ch8)))), .val (.int (1 : Int32)), .unset, .unset]) rfl k) ?_
    refine GlW.pre (B := T7.setTop (mkF m 217 #[.val (.int p1), .val (.int p2), .val (.int p3), .val (.int p4), .val (.int cd1), .val (.int ch1), .val (.int ch2), .val (.int cd2), .val (.int ch3), .val (.int ch4), .val (.int cd3), .val (.int ch5), .val (.int ch6), .val (.int cd4), .val (.int ch7), .val (.int ch8), .val vr_1, .val vr_2, .val vr_3, .val vr_4, .val (.ref b5), .val (.int (bI (mt (mkO cd1 ch1 ch2) (mkO cd2 ch3 ch4) (mkO cd3 ch5 ch6) (mkO cd4 ch7 ch8)))), .val (.int (1 : Int32)), .unset, .unset] [(.int cd2)])) (fun _ k => XS.iload X7.here hx rfl (hb hby at_215) rfl k) ?_
    refine GlW.pre (B := T7.setTop (mkF m 218 #[.val (.int p1), .val (.int p2), .val (.int p3), .val (.int p4), .val (.int cd1), .val (.int ch1), .val (.int ch2), .val (.int cd2), .val (.int ch3), .val (.int ch4), .val (.int cd3), .val (.int ch5), .val (.int ch6), .val (.int cd4), .val (.int ch7), .val (.int ch8), .val vr_1, .val vr_2, .val vr_3, .val vr_4, .val (.ref b5), .val (.int (bI (mt (mkO cd1 ch1 ch2) (mkO cd2 ch3 ch4) (mkO cd3 ch5 ch6) (mkO cd4 ch7 ch8)))), .val (.int (1 : Int32)), .unset, .unset] [(.int (3 : Int32)), (.int cd2)])) (fun _ k => XS.iconst X7.here hx rfl (hb hby at_217) k) ?_
    by_cases hc218_9 : cd2 = (3 : Int32)
    · refine GlW.pre (B := T7.setTop (mkF m 239 #[.val (.int p1), .val (.int p2), .val (.int p3), .val (.int p4), .val (.int cd1), .val (.int ch1), .val (.int ch2), .val (.int cd2), .val (.int ch3), .val (.int ch4), .val (.int cd3), .val (.int ch5), .val (.int ch6), .val (.int cd4), .val (.int ch7), .val (.int ch8), .val vr_1, .val vr_2, .val vr_3, .val vr_4, .val (.ref b5), .val (.int (bI (mt (mkO cd1 ch1 ch2) (mkO cd2 ch3 ch4) (mkO cd3 ch5 ch6) (mkO cd4 ch7 ch8)))), .val (.int (1 : Int32)), .unset, .unset] [])) (fun _ k => XS.icmpYes X7.here hx rfl (pc0 := 218) (pc' := 239) rfl (hb hby at_218) rfl (teq hc218_9).1 (by decide) (by decide) k) ?_
      refine GlW.pre (B := T7.setTop (mkF m 240 #[.val (.int p1), .val (.int p2), .val (.int p3), .val (.int p4), .val (.int cd1), .val (.int ch1), .val (.int ch2), .val (.int cd2), .val (.int ch3), .val (.int ch4), .val (.int cd3), .val (.int ch5), .val (.int ch6), .val (.int cd4), .val (.int ch7), .val (.int ch8), .val vr_1, .val vr_2, .val vr_3, .val vr_4, .val (.ref b5), .val (.int (bI (mt (mkO cd1 ch1 ch2) (mkO cd2 ch3 ch4) (mkO cd3 ch5 ch6) (mkO cd4 ch7 ch8)))), .val (.int (1 : Int32)), .unset, .unset] [(.int (1 : Int32))])) (fun _ k => XS.iconst X7.here hx rfl (hb hby at_239) k) ?_
      refine GlW.pre (B := T7.setTop (mkF m 244 #[.val (.int p1), .val (.int p2), .val (.int p3), .val (.int p4), .val (.int cd1), .val (.int ch1), .val (.int ch2), .val (.int cd2), .val (.int ch3), .val (.int ch4), .val (.int cd3), .val (.int ch5), .val (.int ch6), .val (.int cd4), .val (.int ch7), .val (.int ch8), .val vr_1, .val vr_2, .val vr_3, .val vr_4, .val (.ref b5), .val (.int (bI (mt (mkO cd1 ch1 ch2) (mkO cd2 ch3 ch4) (mkO cd3 ch5 ch6) (mkO cd4 ch7 ch8)))), .val (.int (1 : Int32)), .unset, .unset] [(.int (1 : Int32))])) (fun _ k => XS.goto X7.here hx rfl (pc0 := 240) (pc' := 244) rfl (hb hby at_240) (by decide) (by decide) k) ?_
      refine GlW.pre (B := T7.setTop (mkF m 246 #[.val (.int p1), .val (.int p2), .val (.int p3), .val (.int p4), .val (.int cd1), .val (.int ch1), .val (.int ch2), .val (.int cd2), .val (.int ch3), .val (.int ch4), .val (.int cd3), .val (.int ch5), .val (.int ch6), .val (.int cd4), .val (.int ch7), .val (.int ch8), .val vr_1, .val vr_2, .val vr_3, .val vr_4, .val (.ref b5), .val (.int (bI (mt (mkO cd1 ch1 ch2) (mkO cd2 ch3 ch4) (mkO cd3 ch5 ch6) (mkO cd4 ch7 ch8)))), .val (.int (1 : Int32)), .val (.int (1 : Int32)), .unset] [])) (fun _ k => XS.istore X7.here hx rfl (hb hby at_244) rfl (l' := #[.val (.int p1), .val (.int p2), .val (.int p3), .val (.int p4), .val (.int cd1), .val (.int ch1), .val (.int ch2), .val (.int cd2), .val (.int ch3), .val (.int ch4), .val (.int cd3), .val (.int ch5), .val (.int ch6), .val (.int cd4), .val (.int ch7), .val (.int ch8), .val vr_1, .val vr_2, .val vr_3, .val vr_4, .val (.ref b5), .val (.int (bI (mt (mkO cd1 ch1 ch2) (mkO cd2 ch3 ch4) (mkO cd3 ch5 ch6) (mkO cd4 ch7 ch8)))), .val (.int (1 : Int32)), .val (.int (1 : Int32)), .unset]) rfl k) ?_
      refine GlW.pre (B := T7.setTop (mkF m 248 #[.val (.int p1), .val (.int p2), .val (.int p3), .val (.int p4), .val (.int cd1), .val (.int ch1), .val (.int ch2), .val (.int cd2), .val (.int ch3), .val (.int ch4), .val (.int cd3), .val (.int ch5), .val (.int ch6), .val (.int cd4), .val (.int ch7), .val (.int ch8), .val vr_1, .val vr_2, .val vr_3, .val vr_4, .val (.ref b5), .val (.int (bI (mt (mkO cd1 ch1 ch2) (mkO cd2 ch3 ch4) (mkO cd3 ch5 ch6) (mkO cd4 ch7 ch8)))), .val (.int (1 : Int32)), .val (.int (1 : Int32)), .unset] [(.int (1 : Int32))])) (fun _ k => XS.iload X7.here hx rfl (hb hby at_246) rfl k) ?_
      refine GlW.pre (B := T7.setTop (mkF m 251 #[.val (.int p1), .val (.int p2), .val (.int p3), .val (.int p4), .val (.int cd1), .val (.int ch1), .val (.int ch2), .val (.int cd2), .val (.int ch3), .val (.int ch4), .val (.int cd3), .val (.int ch5), .val (.int ch6), .val (.int cd4), .val (.int ch7), .val (.int ch8), .val vr_1, .val vr_2, .val vr_3, .val vr_4, .val (.ref b5), .val (.int (bI (mt (mkO cd1 ch1 ch2) (mkO cd2 ch3 ch4) (mkO cd3 ch5 ch6) (mkO cd4 ch7 ch8)))), .val (.int (1 : Int32)), .val (.int (1 : Int32)), .unset] [])) (fun _ k => XS.ifNo X7.here hx rfl (hb hby at_248) rfl ((if0 _ _).trans (feq (by decide : ¬ ((1 : Int32) = (0 : Int32)))).1) k) ?_
      refine GlW.pre (B := T7.setTop (mkF m 253 #[.val (.int p1), .val (.int p2), .val (.int p3), .val (.int p4), .val (.int cd1), .val (.int ch1), .val (.int ch2), .val (.int cd2), .val (.int ch3), .val (.int ch4), .val (.int cd3), .val (.int ch5), .val (.int ch6), .val (.int cd4), .val (.int ch7), .val (.int ch8), .val vr_1, .val vr_2, .val vr_3, .val vr_4, .val (.ref b5), .val (.int (bI (mt (mkO cd1 ch1 ch2) (mkO cd2 ch3 ch4) (mkO cd3 ch5 ch6) (mkO cd4 ch7 ch8)))), .val (.int (1 : Int32)), .val (.int (1 : Int32)), .unset] [(.int (1 : Int32))])) (fun _ k => XS.iload X7.here hx rfl (hb hby at_251) rfl k) ?_
      refine GlW.pre (B := T7.setTop (mkF m 256 #[.val (.int p1), .val (.int p2), .val (.int p3), .val (.int p4), .val (.int cd1), .val (.int ch1), .val (.int ch2), .val (.int cd2), .val (.int ch3), .val (.int ch4), .val (.int cd3), .val (.int ch5), .val (.int ch6), .val (.int cd4), .val (.int ch7), .val (.int ch8), .val vr_1, .val vr_2, .val vr_3, .val vr_4, .val (.ref b5), .val (.int (bI (mt (mkO cd1 ch1 ch2) (mkO cd2 ch3 ch4) (mkO cd3 ch5 ch6) (mkO cd4 ch7 ch8)))), .val (.int (1 : Int32)), .val (.int (1 : Int32)), .unset] [])) (fun _ k => XS.ifNo X7.here hx rfl (hb hby at_253) rfl ((if0 _ _).trans (feq (by decide : ¬ ((1 : Int32) = (0 : Int32)))).1) k) ?_
      refine GlW.pre (B := T7.setTop (mkF m 257 #[.val (.int p1), .val (.int p2), .val (.int p3), .val (.int p4), .val (.int cd1), .val (.int ch1), .val (.int ch2), .val (.int cd2), .val (.int ch3), .val (.int ch4), .val (.int cd3), .val (.int ch5), .val (.int ch6), .val (.int cd4), .val (.int ch7), .val (.int ch8), .val vr_1, .val vr_2, .val vr_3, .val vr_4, .val (.ref b5), .val (.int (bI (mt (mkO cd1 ch1 ch2) (mkO cd2 ch3 ch4) (mkO cd3 ch5 ch6) (mkO cd4 ch7 ch8)))), .val (.int (1 : Int32)), .val (.int (1 : Int32)), .unset] [(.int (1 : Int32))])) (fun _ k => XS.iconst X7.here hx rfl (hb hby at_256) k) ?_
      refine GlW.pre (B := T7.setTop (mkF m 261 #[.val (.int p1), .val (.int p2), .val (.int p3), .val (.int p4), .val (.int cd1), .val (.int ch1), .val (.int ch2), .val (.int cd2), .val (.int ch3), .val (.int ch4), .val (.int cd3), .val (.int ch5), .val (.int ch6), .val (.int cd4), .val (.int ch7), .val (.int ch8), .val vr_1, .val vr_2, .val vr_3, .val vr_4, .val (.ref b5), .val (.int (bI (mt (mkO cd1 ch1 ch2) (mkO cd2 ch3 ch4) (mkO cd3 ch5 ch6) (mkO cd4 ch7 ch8)))), .val (.int (1 : Int32)), .val (.int (1 : Int32)), .unset] [(.int (1 : Int32))])) (fun _ k => XS.goto X7.here hx rfl (pc0 := 257) (pc' := 261) rfl (hb hby at_257) (by decide) (by decide) k) ?_
      refine GlW.pre (B := T7.setTop (mkF m 263 #[.val (.int p1), .val (.int p2), .val (.int p3), .val (.int p4), .val (.int cd1), .val (.int ch1), .val (.int ch2), .val (.int cd2), .val (.int ch3), .val (.int ch4), .val (.int cd3), .val (.int ch5), .val (.int ch6), .val (.int cd4), .val (.int ch7), .val (.int ch8), .val vr_1, .val vr_2, .val vr_3, .val vr_4, .val (.ref b5), .val (.int (bI (mt (mkO cd1 ch1 ch2) (mkO cd2 ch3 ch4) (mkO cd3 ch5 ch6) (mkO cd4 ch7 ch8)))), .val (.int (1 : Int32)), .val (.int (1 : Int32)), .val (.int (1 : Int32))] [])) (fun _ k => XS.istore X7.here hx rfl (hb hby at_261) rfl (l' := #[.val (.int p1), .val (.int p2), .val (.int p3), .val (.int p4), .val (.int cd1), .val (.int ch1), .val (.int ch2), .val (.int cd2), .val (.int ch3), .val (.int ch4), .val (.int cd3), .val (.int ch5), .val (.int ch6), .val (.int cd4), .val (.int ch7), .val (.int ch8), .val vr_1, .val vr_2, .val vr_3, .val vr_4, .val (.ref b5), .val (.int (bI (mt (mkO cd1 ch1 ch2) (mkO cd2 ch3 ch4) (mkO cd3 ch5 ch6) (mkO cd4 ch7 ch8)))), .val (.int (1 : Int32)), .val (.int (1 : Int32)), .val (.int (1 : Int32))]) rfl k) ?_
      refine GlW.pre (B := T7.setTop (mkF m 265 #[.val (.int p1), .val (.int p2), .val (.int p3), .val (.int p4), .val (.int cd1), .val (.int ch1), .val (.int ch2), .val (.int cd2), .val (.int ch3), .val (.int ch4), .val (.int cd3), .val (.int ch5), .val (.int ch6), .val (.int cd4), .val (.int ch7), .val (.int ch8), .val vr_1, .val vr_2, .val vr_3, .val vr_4, .val (.ref b5), .val (.int (bI (mt (mkO cd1 ch1 ch2) (mkO cd2 ch3 ch4) (mkO cd3 ch5 ch6) (mkO cd4 ch7 ch8)))), .val (.int (1 : Int32)), .val (.int (1 : Int32)), .val (.int (1 : Int32))] [(.int (bI (mt (mkO cd1 ch1 ch2) (mkO cd2 ch3 ch4) (mkO cd3 ch5 ch6) (mkO cd4 ch7 ch8))))])) (fun _ k => XS.iload X7.here hx rfl (hb hby at_263) rfl k) ?_
      refine GlW.pre (B := T7.setTop (mkF m 267 #[.val (.int p1), .val (.int p2), .val (.int p3), .val (.int p4), .val (.int cd1), .val (.int ch1), .val (.int ch2), .val (.int cd2), .val (.int ch3), .val (.int ch4), .val (.int cd3), .val (.int ch5), .val (.int ch6), .val (.int cd4), .val (.int ch7), .val (.int ch8), .val vr_1, .val vr_2, .val vr_3, .val vr_4, .val (.ref b5), .val (.int (bI (mt (mkO cd1 ch1 ch2) (mkO cd2 ch3 ch4) (mkO cd3 ch5 ch6) (mkO cd4 ch7 ch8)))), .val (.int (1 : Int32)), .val (.int (1 : Int32)), .val (.int (1 : Int32))] [(.int (1 : Int32)), (.int (bI (mt (mkO cd1 ch1 ch2) (mkO cd2 ch3 ch4) (mkO cd3 ch5 ch6) (mkO cd4 ch7 ch8))))])) (fun _ k => XS.iload X7.here hx rfl (hb hby at_265) rfl k) ?_
      refine GlW.pre (B := T7.setTop (mkF m 270 #[.val (.int p1), .val (.int p2), .val (.int p3), .val (.int p4), .val (.int cd1), .val (.int ch1), .val (.int ch2), .val (.int cd2), .val (.int ch3), .val (.int ch4), .val (.int cd3), .val (.int ch5), .val (.int ch6), .val (.int cd4), .val (.int ch7), .val (.int ch8), .val vr_1, .val vr_2, .val vr_3, .val vr_4, .val (.ref b5), .val (.int (bI (mt (mkO cd1 ch1 ch2) (mkO cd2 ch3 ch4) (mkO cd3 ch5 ch6) (mkO cd4 ch7 ch8)))), .val (.int (1 : Int32)), .val (.int (1 : Int32)), .val (.int (1 : Int32))] [])) (fun _ k => XS.icmpNo X7.here hx rfl (hb hby at_267) rfl (teq (by rw [mt2 r_cd1 r_cd3 r_cd2 r_cd4]; simp [bI, hc187_8, hc218_9] : (bI (mt (mkO cd1 ch1 ch2) (mkO cd2 ch3 ch4) (mkO cd3 ch5 ch6) (mkO cd4 ch7 ch8))) = (1 : Int32))).2 k) ?_
      refine GlW.pre (B := T7.setTop (mkF m 271 #[.val (.int p1), .val (.int p2), .val (.int p3), .val (.int p4), .val (.int cd1), .val (.int ch1), .val (.int ch2), .val (.int cd2), .val (.int ch3), .val (.int ch4), .val (.int cd3), .val (.int ch5), .val (.int ch6), .val (.int cd4), .val (.int ch7), .val (.int ch8), .val vr_1, .val vr_2, .val vr_3, .val vr_4, .val (.ref b5), .val (.int (bI (mt (mkO cd1 ch1 ch2) (mkO cd2 ch3 ch4) (mkO cd3 ch5 ch6) (mkO cd4 ch7 ch8)))), .val (.int (1 : Int32)), .val (.int (1 : Int32)), .val (.int (1 : Int32))] [(.int (1 : Int32))])) (fun _ k => XS.iconst X7.here hx rfl (hb hby at_270) k) ?_
      refine GlW.pre (B := T7.setTop (mkF m 275 #[.val (.int p1), .val (.int p2), .val (.int p3), .val (.int p4), .val (.int cd1), .val (.int ch1), .val (.int ch2), .val (.int cd2), .val (.int ch3), .val (.int ch4), .val (.int cd3), .val (.int ch5), .val (.int ch6), .val (.int cd4), .val (.int ch7), .val (.int ch8), .val vr_1, .val vr_2, .val vr_3, .val vr_4, .val (.ref b5), .val (.int (bI (mt (mkO cd1 ch1 ch2) (mkO cd2 ch3 ch4) (mkO cd3 ch5 ch6) (mkO cd4 ch7 ch8)))), .val (.int (1 : Int32)), .val (.int (1 : Int32)), .val (.int (1 : Int32))] [(.int (1 : Int32))])) (fun _ k => XS.goto X7.here hx rfl (pc0 := 271) (pc' := 275) rfl (hb hby at_271) (by decide) (by decide) k) ?_
      refine GlW.out X7 hsh e7 hS4 hk6 hZ4 hEL CR (v := some (.int (1 : Int32))) (fun h => by rw [hret] at h; cases h) hlk (fun fs hr => retN X7 hx (t := .boolean) hret (by simp) (hb hby at_275) hr) ?_ (by decide) (by decide)
      show Q_rm0 Z _ _ _ _ _ h0 n0 _ T7.heap _
      rw [e7]
      exact ⟨rfl, N7⟩
    · refine GlW.pre (B := T7.setTop (mkF m 221 #[.val (.int p1), .val (.int p2), .val (.int p3), .val (.int p4), .val (.int cd1), .val (.int ch1), .val (.int ch2), .val (.int cd2), .val (.int ch3), .val (.int ch4), .val (.int cd3), .val (.int ch5), .val (.int ch6), .val (.int cd4), .val (.int ch7), .val (.int ch8), .val vr_1, .val vr_2, .val vr_3, .val vr_4, .val (.ref b5), .val (.int (bI (mt (mkO cd1 ch1 ch2) (mkO cd2 ch3 ch4) (mkO cd3 ch5 ch6) (mkO cd4 ch7 ch8)))), .val (.int (1 : Int32)), .unset, .unset] [])) (fun _ k => XS.icmpNo X7.here hx rfl (hb hby at_218) rfl (feq hc218_9).1 k) ?_
      refine GlW.pre (B := T7.setTop (mkF m 223 #[.val (.int p1), .val (.int p2), .val (.int p3), .val (.int p4), .val (.int cd1), .val (.int ch1), .val (.int ch2), .val (.int cd2), .val (.int ch3), .val (.int ch4), .val (.int cd3), .val (.int ch5), .val (.int ch6), .val (.int cd4), .val (.int ch7), .val (.int ch8), .val vr_1, .val vr_2, .val vr_3, .val vr_4, .val (.ref b5), .val (.int (bI (mt (mkO cd1 ch1 ch2) (mkO cd2 ch3 ch4) (mkO cd3 ch5 ch6) (mkO cd4 ch7 ch8)))), .val (.int (1 : Int32)), .unset, .unset] [(.int cd2)])) (fun _ k => XS.iload X7.here hx rfl (hb hby at_221) rfl k) ?_
      refine GlW.pre (B := T7.setTop (mkF m 225 #[.val (.int p1), .val (.int p2), .val (.int p3), .val (.int p4), .val (.int cd1), .val (.int ch1), .val (.int ch2), .val (.int cd2), .val (.int ch3), .val (.int ch4), .val (.int cd3), .val (.int ch5), .val (.int ch6), .val (.int cd4), .val (.int ch7), .val (.int ch8), .val vr_1, .val vr_2, .val vr_3, .val vr_4, .val (.ref b5), .val (.int (bI (mt (mkO cd1 ch1 ch2) (mkO cd2 ch3 ch4) (mkO cd3 ch5 ch6) (mkO cd4 ch7 ch8)))), .val (.int (1 : Int32)), .unset, .unset] [(.int ch3), (.int cd2)])) (fun _ k => XS.iload X7.here hx rfl (hb hby at_223) rfl k) ?_
      refine GlW.pre (B := T7.setTop (mkF m 227 #[.val (.int p1), .val (.int p2), .val (.int p3), .val (.int p4), .val (.int cd1), .val (.int ch1), .val (.int ch2), .val (.int cd2), .val (.int ch3), .val (.int ch4), .val (.int cd3), .val (.int ch5), .val (.int ch6), .val (.int cd4), .val (.int ch7), .val (.int ch8), .val vr_1, .val vr_2, .val vr_3, .val vr_4, .val (.ref b5), .val (.int (bI (mt (mkO cd1 ch1 ch2) (mkO cd2 ch3 ch4) (mkO cd3 ch5 ch6) (mkO cd4 ch7 ch8)))), .val (.int (1 : Int32)), .unset, .unset] [(.int ch4), (.int ch3), (.int cd2)])) (fun _ k => XS.iload X7.here hx rfl (hb hby at_225) rfl k) ?_
      refine GlW.pre (B := T7.setTop (mkF m 229 #[.val (.int p1), .val (.int p2), .val (.int p3), .val (.int p4), .val (.int cd1), .val (.int ch1), .val (.int ch2), .val (.int cd2), .val (.int ch3), .val (.int ch4), .val (.int cd3), .val (.int ch5), .val (.int ch6), .val (.int cd4), .val (.int ch7), .val (.int ch8), .val vr_1, .val vr_2, .val vr_3, .val vr_4, .val (.ref b5), .val (.int (bI (mt (mkO cd1 ch1 ch2) (mkO cd2 ch3 ch4) (mkO cd3 ch5 ch6) (mkO cd4 ch7 ch8)))), .val (.int (1 : Int32)), .unset, .unset] [(.int cd4), (.int ch4), (.int ch3), (.int cd2)])) (fun _ k => XS.iload X7.here hx rfl (hb hby at_227) rfl k) ?_
      refine GlW.pre (B := T7.setTop (mkF m 231 #[.val (.int p1), .val (.int p2), .val (.int p3), .val (.int p4), .val (.int cd1), .val (.int ch1), .val (.int ch2), .val (.int cd2), .val (.int ch3), .val (.int ch4), .val (.int cd3), .val (.int ch5), .val (.int ch6), .val (.int cd4), .val (.int ch7), .val (.int ch8), .val vr_1, .val vr_2, .val vr_3, .val vr_4, .val (.ref b5), .val (.int (bI (mt (mkO cd1 ch1 ch2) (mkO cd2 ch3 ch4) (mkO cd3 ch5 ch6) (mkO cd4 ch7 ch8)))), .val (.int (1 : Int32)), .unset, .unset] [(.int ch7), (.int cd4), (.int ch4), (.int ch3), (.int cd2)])) (fun _ k => XS.iload X7.here hx rfl (hb hby at_229) rfl k) ?_
      refine GlW.pre (B := T7.setTop (mkF m 233 #[.val (.int p1), .val (.int p2), .val (.int p3), .val (.int p4), .val (.int cd1), .val (.int ch1), .val (.int ch2), .val (.int cd2), .val (.int ch3), .val (.int ch4), .val (.int cd3), .val (.int ch5), .val (.int ch6), .val (.int cd4), .val (.int ch7), .val (.int ch8), .val vr_1, .val vr_2, .val vr_3, .val vr_4, .val (.ref b5), .val (.int (bI (mt (mkO cd1 ch1 ch2) (mkO cd2 ch3 ch4) (mkO cd3 ch5 ch6) (mkO cd4 ch7 ch8)))), .val (.int (1 : Int32)), .unset, .unset] [(.int ch8), (.int ch7), (.int cd4), (.int ch4), (.int ch3), (.int cd2)])) (fun _ k => XS.iload X7.here hx rfl (hb hby at_231) rfl k) ?_
      obtain ⟨rv10, _, ⟨T10, L10, k10, n10⟩, -, X10, ⟨Lc10, hQ10, l10, y10, z10⟩, st10⟩ := Jvm.LawKit.callS X7 hx (y := (⟨"com/example/tranquility/tranquility/NameTestMatchesPinLaw", "same", "(ICCICC)Z"⟩ : MethodName)) ho4 (mvT hZ4 (hw _ (List.mem_of_getElem? (i := 68) rfl))) (mvT hZ4 (hw _ (List.mem_of_getElem? (i := 69) rfl))) (mvT hZ4 (hw _ (List.mem_of_getElem? (i := 2) rfl))) (mvT hZ4 (hw _ (List.mem_of_getElem? (i := 70) rfl))) (by decide) (backOf (W := 0) (sme l Z a0 hw [] cd2 ch3 ch4 cd4 ch7 ch8 T6.heap n0 Z0 ) hZ4 (hw _ (List.mem_of_getElem? (i := 70) rfl)) (hw _ (List.mem_of_getElem? (i := 2) rfl)) (by decide) (by decide)) (g := (mkF m 233 #[.val (.int p1), .val (.int p2), .val (.int p3), .val (.int p4), .val (.int cd1), .val (.int ch1), .val (.int ch2), .val (.int cd2), .val (.int ch3), .val (.int ch4), .val (.int cd3), .val (.int ch5), .val (.int ch6), .val (.int cd4), .val (.int ch7), .val (.int ch8), .val vr_1, .val vr_2, .val vr_3, .val vr_4, .val (.ref b5), .val (.int (bI (mt (mkO cd1 ch1 ch2) (mkO cd2 ch3 ch4) (mkO cd3 ch5 ch6) (mkO cd4 ch7 ch8)))), .val (.int (1 : Int32)), .unset, .unset] [(.int ch8), (.int ch7), (.int cd4), (.int ch4), (.int ch3), (.int cd2)])) rfl (by rw [hml]; rfl) (argsL := [(.int cd2), (.int ch3), (.int ch4), (.int cd4), (.int ch7), (.int ch8)]) (rest := []) (lenOf pd_7 rfl) rfl (by show 2 * 0 + _ ≤ _; exact Nat.le_of_eq rfl) (hb hby at_233) (fun _ _ => ⟨rfl, e7, (by decide : 25 + 0 ≤ _), (by decide : 50 + 0 ≤ _)⟩)
      dsimp only [Pt.U, Pt.locs, Pt.cells, Pt.slots] at X10 l10 y10 z10 st10 hQ10
      subst l10 y10 z10
      obtain ⟨rfl, N10q, e10⟩ := hQ10
      have N10 := Fr.app N7 N10q
      refine GlW.pre (B := T10.setTop (mkF m 236 #[.val (.int p1), .val (.int p2), .val (.int p3), .val (.int p4), .val (.int cd1), .val (.int ch1), .val (.int ch2), .val (.int cd2), .val (.int ch3), .val (.int ch4), .val (.int cd3), .val (.int ch5), .val (.int ch6), .val (.int cd4), .val (.int ch7), .val (.int ch8), .val vr_1, .val vr_2, .val vr_3, .val vr_4, .val (.ref b5), .val (.int (bI (mt (mkO cd1 ch1 ch2) (mkO cd2 ch3 ch4) (mkO cd3 ch5 ch6) (mkO cd4 ch7 ch8)))), .val (.int (1 : Int32)), .unset, .unset] [(.int (bI (sm cd2 ch3 ch4 cd4 ch7 ch8)))])) (fun _ k => st10 _ k) ?_
      rcases Bool.eq_false_or_eq_true (sm cd2 ch3 ch4 cd4 ch7 ch8) with hc236_11 | hc236_11
      · refine GlW.pre (B := T10.setTop (mkF m 239 #[.val (.int p1), .val (.int p2), .val (.int p3), .val (.int p4), .val (.int cd1), .val (.int ch1), .val (.int ch2), .val (.int cd2), .val (.int ch3), .val (.int ch4), .val (.int cd3), .val (.int ch5), .val (.int ch6), .val (.int cd4), .val (.int ch7), .val (.int ch8), .val vr_1, .val vr_2, .val vr_3, .val vr_4, .val (.ref b5), .val (.int (bI (mt (mkO cd1 ch1 ch2) (mkO cd2 ch3 ch4) (mkO cd3 ch5 ch6) (mkO cd4 ch7 ch8)))), .val (.int (1 : Int32)), .unset, .unset] [])) (fun _ k => XS.ifNo X10.here hx rfl (hb hby at_236) rfl ((if0 _ _).trans (feq (bI_t hc236_11)).1) k) ?_
        refine GlW.pre (B := T10.setTop (mkF m 240 #[.val (.int p1), .val (.int p2), .val (.int p3), .val (.int p4), .val (.int cd1), .val (.int ch1), .val (.int ch2), .val (.int cd2), .val (.int ch3), .val (.int ch4), .val (.int cd3), .val (.int ch5), .val (.int ch6), .val (.int cd4), .val (.int ch7), .val (.int ch8), .val vr_1, .val vr_2, .val vr_3, .val vr_4, .val (.ref b5), .val (.int (bI (mt (mkO cd1 ch1 ch2) (mkO cd2 ch3 ch4) (mkO cd3 ch5 ch6) (mkO cd4 ch7 ch8)))), .val (.int (1 : Int32)), .unset, .unset] [(.int (1 : Int32))])) (fun _ k => XS.iconst X10.here hx rfl (hb hby at_239) k) ?_
        refine GlW.pre (B := T10.setTop (mkF m 244 #[.val (.int p1), .val (.int p2), .val (.int p3), .val (.int p4), .val (.int cd1), .val (.int ch1), .val (.int ch2), .val (.int cd2), .val (.int ch3), .val (.int ch4), .val (.int cd3), .val (.int ch5), .val (.int ch6), .val (.int cd4), .val (.int ch7), .val (.int ch8), .val vr_1, .val vr_2, .val vr_3, .val vr_4, .val (.ref b5), .val (.int (bI (mt (mkO cd1 ch1 ch2) (mkO cd2 ch3 ch4) (mkO cd3 ch5 ch6) (mkO cd4 ch7 ch8)))), .val (.int (1 : Int32)), .unset, .unset] [(.int (1 : Int32))])) (fun _ k => XS.goto X10.here hx rfl (pc0 := 240) (pc' := 244) rfl (hb hby at_240) (by decide) (by decide) k) ?_
        refine GlW.pre (B := T10.setTop (mkF m 246 #[.val (.int p1), .val (.int p2), .val (.int p3), .val (.int p4), .val (.int cd1), .val (.int ch1), .val (.int ch2), .val (.int cd2), .val (.int ch3), .val (.int ch4), .val (.int cd3), .val (.int ch5), .val (.int ch6), .val (.int cd4), .val (.int ch7), .val (.int ch8), .val vr_1, .val vr_2, .val vr_3, .val vr_4, .val (.ref b5), .val (.int (bI (mt (mkO cd1 ch1 ch2) (mkO cd2 ch3 ch4) (mkO cd3 ch5 ch6) (mkO cd4 ch7 ch8)))), .val (.int (1 : Int32)), .val (.int (1 : Int32)), .unset] [])) (fun _ k => XS.istore X10.here hx rfl (hb hby at_244) rfl (l' := #[.val (.int p1), .val (.int p2), .val (.int p3), .val (.int p4), .val (.int cd1), .val (.int ch1), .val (.int ch2), .val (.int cd2), .val (.int ch3), .val (.int ch4), .val (.int cd3), .val (.int ch5), .val (.int ch6), .val (.int cd4), .val (.int ch7), .val (.int ch8), .val vr_1, .val vr_2, .val vr_3, .val vr_4, .val (.ref b5), .val (.int (bI (mt (mkO cd1 ch1 ch2) (mkO cd2 ch3 ch4) (mkO cd3 ch5 ch6) (mkO cd4 ch7 ch8)))), .val (.int (1 : Int32)), .val (.int (1 : Int32)), .unset]) rfl k) ?_
        refine GlW.pre (B := T10.setTop (mkF m 248 #[.val (.int p1), .val (.int p2), .val (.int p3), .val (.int p4), .val (.int cd1), .val (.int ch1), .val (.int ch2), .val (.int cd2), .val (.int ch3), .val (.int ch4), .val (.int cd3), .val (.int ch5), .val (.int ch6), .val (.int cd4), .val (.int ch7), .val (.int ch8), .val vr_1, .val vr_2, .val vr_3, .val vr_4, .val (.ref b5), .val (.int (bI (mt (mkO cd1 ch1 ch2) (mkO cd2 ch3 ch4) (mkO cd3 ch5 ch6) (mkO cd4 ch7 ch8)))), .val (.int (1 : Int32)), .val (.int (1 : Int32)), .unset] [(.int (1 : Int32))])) (fun _ k => XS.iload X10.here hx rfl (hb hby at_246) rfl k) ?_
        refine GlW.pre (B := T10.setTop (mkF m 251 #[.val (.int p1), .val (.int p2), .val (.int p3), .val (.int p4), .val (.int cd1), .val (.int ch1), .val (.int ch2), .val (.int cd2), .val (.int ch3), .val (.int ch4), .val (.int cd3), .val (.int ch5), .val (.int ch6), .val (.int cd4), .val (.int ch7), .val (.int ch8), .val vr_1, .val vr_2, .val vr_3, .val vr_4, .val (.ref b5), .val (.int (bI (mt (mkO cd1 ch1 ch2) (mkO cd2 ch3 ch4) (mkO cd3 ch5 ch6) (mkO cd4 ch7 ch8)))), .val (.int (1 : Int32)), .val (.int (1 : Int32)), .unset] [])) (fun _ k => XS.ifNo X10.here hx rfl (hb hby at_248) rfl ((if0 _ _).trans (feq (by decide : ¬ ((1 : Int32) = (0 : Int32)))).1) k) ?_
        refine GlW.pre (B := T10.setTop (mkF m 253 #[.val (.int p1), .val (.int p2), .val (.int p3), .val (.int p4), .val (.int cd1), .val (.int ch1), .val (.int ch2), .val (.int cd2), .val (.int ch3), .val (.int ch4), .val (.int cd3), .val (.int ch5), .val (.int ch6), .val (.int cd4), .val (.int ch7), .val (.int ch8), .val vr_1, .val vr_2, .val vr_3, .val vr_4, .val (.ref b5), .val (.int (bI (mt (mkO cd1 ch1 ch2) (mkO cd2 ch3 ch4) (mkO cd3 ch5 ch6) (mkO cd4 ch7 ch8)))), .val (.int (1 : Int32)), .val (.int (1 : Int32)), .unset] [(.int (1 : Int32))])) (fun _ k => XS.iload X10.here hx rfl (hb hby at_251) rfl k) ?_
        refine GlW.pre (B := T10.setTop (mkF m 256 #[.val (.int p1), .val (.int p2), .val (.int p3), .val (.int p4), .val (.int cd1), .val (.int ch1), .val (.int ch2), .val (.int cd2), .val (.int ch3), .val (.int ch4), .val (.int cd3), .val (.int ch5), .val (.int ch6), .val (.int cd4), .val (.int ch7), .val (.int ch8), .val vr_1, .val vr_2, .val vr_3, .val vr_4, .val (.ref b5), .val (.int (bI (mt (mkO cd1 ch1 ch2) (mkO cd2 ch3 ch4) (mkO cd3 ch5 ch6) (mkO cd4 ch7 ch8)))), .val (.int (1 : Int32)), .val (.int (1 : Int32)), .unset] [])) (fun _ k => XS.ifNo X10.here hx rfl (hb hby at_253) rfl ((if0 _ _).trans (feq (by decide : ¬ ((1 : Int32) = (0 : Int32)))).1) k) ?_
        refine GlW.pre (B := T10.setTop (mkF m 257 #[.val (.int p1), .val (.int p2), .val (.int p3), .val (.int p4), .val (.int cd1), .val (.int ch1), .val (.int ch2), .val (.int cd2), .val (.int ch3), .val (.int ch4), .val (.int cd3), .val (.int ch5), .val (.int ch6), .val (.int cd4), .val (.int ch7), .val (.int ch8), .val vr_1, .val vr_2, .val vr_3, .val vr_4, .val (.ref b5), .val (.int (bI (mt (mkO cd1 ch1 ch2) (mkO cd2 ch3 ch4) (mkO cd3 ch5 ch6) (mkO cd4 ch7 ch8)))), .val (.int (1 : Int32)), .val (.int (1 : Int32)), .unset] [(.int (1 : Int32))])) (fun _ k => XS.iconst X10.here hx rfl (hb hby at_256) k) ?_
        refine GlW.pre (B := T10.setTop (mkF m 261 #[.val (.int p1), .val (.int p2), .val (.int p3), .val (.int p4), .val (.int cd1), .val (.int ch1), .val (.int ch2), .val (.int cd2), .val (.int ch3), .val (.int ch4), .val (.int cd3), .val (.int ch5), .val (.int ch6), .val (.int cd4), .val (.int ch7), .val (.int ch8), .val vr_1, .val vr_2, .val vr_3, .val vr_4, .val (.ref b5), .val (.int (bI (mt (mkO cd1 ch1 ch2) (mkO cd2 ch3 ch4) (mkO cd3 ch5 ch6) (mkO cd4 ch7 ch8)))), .val (.int (1 : Int32)), .val (.int (1 : Int32)), .unset] [(.int (1 : Int32))])) (fun _ k => XS.goto X10.here hx rfl (pc0 := 257) (pc' := 261) rfl (hb hby at_257) (by decide) (by decide) k) ?_
        refine GlW.pre (B := T10.setTop (mkF m 263 #[.val (.int p1), .val (.int p2), .val (.int p3), .val (.int p4), .val (.int cd1), .val (.int ch1), .val (.int ch2), .val (.int cd2), .val (.int ch3), .val (.int ch4), .val (.int cd3), .val (.int ch5), .val (.int ch6), .val (.int cd4), .val (.int ch7), .val (.int ch8), .val vr_1, .val vr_2, .val vr_3, .val vr_4, .val (.ref b5), .val (.int (bI (mt (mkO cd1 ch1 ch2) (mkO cd2 ch3 ch4) (mkO cd3 ch5 ch6) (mkO cd4 ch7 ch8)))), .val (.int (1 : Int32)), .val (.int (1 : Int32)), .val (.int (1 : Int32))] [])) (fun _ k => XS.istore X10.here hx rfl (hb hby at_261) rfl (l' := #[.val (.int p1), .val (.int p2), .val (.int p3), .val (.int p4), .val (.int cd1), .val (.int ch1), .val (.int ch2), .val (.int cd2), .val (.int ch3), .val (.int ch4), .val (.int cd3), .val (.int ch5), .val (.int ch6), .val (.int cd4), .val (.int ch7), .val (.int ch8), .val vr_1, .val vr_2, .val vr_3, .val vr_4, .val (.ref b5), .val (.int (bI (mt (mkO cd1 ch1 ch2) (mkO cd2 ch3 ch4) (mkO cd3 ch5 ch6) (mkO cd4 ch7 ch8)))), .val (.int (1 : Int32)), .val (.int (1 : Int32)), .val (.int (1 : Int32))]) rfl k) ?_
        refine GlW.pre (B := T10.setTop (mkF m 265 #[.val (.int p1), .val (.int p2), .val (.int p3), .val (.int p4), .val (.int cd1), .val (.int ch1), .val (.int ch2), .val (.int cd2), .val (.int ch3), .val (.int ch4), .val (.int cd3), .val (.int ch5), .val (.int ch6), .val (.int cd4), .val (.int ch7), .val (.int ch8), .val vr_1, .val vr_2, .val vr_3, .val vr_4, .val (.ref b5), .val (.int (bI (mt (mkO cd1 ch1 ch2) (mkO cd2 ch3 ch4) (mkO cd3 ch5 ch6) (mkO cd4 ch7 ch8)))), .val (.int (1 : Int32)), .val (.int (1 : Int32)), .val (.int (1 : Int32))] [(.int (bI (mt (mkO cd1 ch1 ch2) (mkO cd2 ch3 ch4) (mkO cd3 ch5 ch6) (mkO cd4 ch7 ch8))))])) (fun _ k => XS.iload X10.here hx rfl (hb hby at_263) rfl k) ?_
        refine GlW.pre (B := T10.setTop (mkF m 267 #[.val (.int p1), .val (.int p2), .val (.int p3), .val (.int p4), .val (.int cd1), .val (.int ch1), .val (.int ch2), .val (.int cd2), .val (.int ch3), .val (.int ch4), .val (.int cd3), .val (.int ch5), .val (.int ch6), .val (.int cd4), .val (.int ch7), .val (.int ch8), .val vr_1, .val vr_2, .val vr_3, .val vr_4, .val (.ref b5), .val (.int (bI (mt (mkO cd1 ch1 ch2) (mkO cd2 ch3 ch4) (mkO cd3 ch5 ch6) (mkO cd4 ch7 ch8)))), .val (.int (1 : Int32)), .val (.int (1 : Int32)), .val (.int (1 : Int32))] [(.int (1 : Int32)), (.int (bI (mt (mkO cd1 ch1 ch2) (mkO cd2 ch3 ch4) (mkO cd3 ch5 ch6) (mkO cd4 ch7 ch8))))])) (fun _ k => XS.iload X10.here hx rfl (hb hby at_265) rfl k) ?_
        refine GlW.pre (B := T10.setTop (mkF m 270 #[.val (.int p1), .val (.int p2), .val (.int p3), .val (.int p4), .val (.int cd1), .val (.int ch1), .val (.int ch2), .val (.int cd2), .val (.int ch3), .val (.int ch4), .val (.int cd3), .val (.int ch5), .val (.int ch6), .val (.int cd4), .val (.int ch7), .val (.int ch8), .val vr_1, .val vr_2, .val vr_3, .val vr_4, .val (.ref b5), .val (.int (bI (mt (mkO cd1 ch1 ch2) (mkO cd2 ch3 ch4) (mkO cd3 ch5 ch6) (mkO cd4 ch7 ch8)))), .val (.int (1 : Int32)), .val (.int (1 : Int32)), .val (.int (1 : Int32))] [])) (fun _ k => XS.icmpNo X10.here hx rfl (hb hby at_267) rfl (teq (by rw [mt2 r_cd1 r_cd3 r_cd2 r_cd4]; simp [bI, hc187_8, hc218_9, hc236_11] : (bI (mt (mkO cd1 ch1 ch2) (mkO cd2 ch3 ch4) (mkO cd3 ch5 ch6) (mkO cd4 ch7 ch8))) = (1 : Int32))).2 k) ?_
        refine GlW.pre (B := T10.setTop (mkF m 271 #[.val (.int p1), .val (.int p2), .val (.int p3), .val (.int p4), .val (.int cd1), .val (.int ch1), .val (.int ch2), .val (.int cd2), .val (.int ch3), .val (.int ch4), .val (.int cd3), .val (.int ch5), .val (.int ch6), .val (.int cd4), .val (.int ch7), .val (.int ch8), .val vr_1, .val vr_2, .val vr_3, .val vr_4, .val (.ref b5), .val (.int (bI (mt (mkO cd1 ch1 ch2) (mkO cd2 ch3 ch4) (mkO cd3 ch5 ch6) (mkO cd4 ch7 ch8)))), .val (.int (1 : Int32)), .val (.int (1 : Int32)), .val (.int (1 : Int32))] [(.int (1 : Int32))])) (fun _ k => XS.iconst X10.here hx rfl (hb hby at_270) k) ?_
        refine GlW.pre (B := T10.setTop (mkF m 275 #[.val (.int p1), .val (.int p2), .val (.int p3), .val (.int p4), .val (.int cd1), .val (.int ch1), .val (.int ch2), .val (.int cd2), .val (.int ch3), .val (.int ch4), .val (.int cd3), .val (.int ch5), .val (.int ch6), .val (.int cd4), .val (.int ch7), .val (.int ch8), .val vr_1, .val vr_2, .val vr_3, .val vr_4, .val (.ref b5), .val (.int (bI (mt (mkO cd1 ch1 ch2) (mkO cd2 ch3 ch4) (mkO cd3 ch5 ch6) (mkO cd4 ch7 ch8)))), .val (.int (1 : Int32)), .val (.int (1 : Int32)), .val (.int (1 : Int32))] [(.int (1 : Int32))])) (fun _ k => XS.goto X10.here hx rfl (pc0 := 271) (pc' := 275) rfl (hb hby at_271) (by decide) (by decide) k) ?_
        refine GlW.out X10 hsh e10 hS4 hk6 hZ4 hEL CR (v := some (.int (1 : Int32))) (fun h => by rw [hret] at h; cases h) hlk (fun fs hr => retN X10 hx (t := .boolean) hret (by simp) (hb hby at_275) hr) ?_ (by decide) (by decide)
        show Q_rm0 Z _ _ _ _ _ h0 n0 _ T10.heap _
        rw [e10]
        exact ⟨rfl, N10⟩
      · refine GlW.pre (B := T10.setTop (mkF m 243 #[.val (.int p1), .val (.int p2), .val (.int p3), .val (.int p4), .val (.int cd1), .val (.int ch1), .val (.int ch2), .val (.int cd2), .val (.int ch3), .val (.int ch4), .val (.int cd3), .val (.int ch5), .val (.int ch6), .val (.int cd4), .val (.int ch7), .val (.int ch8), .val vr_1, .val vr_2, .val vr_3, .val vr_4, .val (.ref b5), .val (.int (bI (mt (mkO cd1 ch1 ch2) (mkO cd2 ch3 ch4) (mkO cd3 ch5 ch6) (mkO cd4 ch7 ch8)))), .val (.int (1 : Int32)), .unset, .unset] [])) (fun _ k => XS.ifYes X10.here hx rfl (pc0 := 236) (pc' := 243) rfl (hb hby at_236) rfl ((if0 _ _).trans (teq (bI_f hc236_11)).1) (by decide) (by decide) k) ?_
        refine GlW.pre (B := T10.setTop (mkF m 244 #[.val (.int p1), .val (.int p2), .val (.int p3), .val (.int p4), .val (.int cd1), .val (.int ch1), .val (.int ch2), .val (.int cd2), .val (.int ch3), .val (.int ch4), .val (.int cd3), .val (.int ch5), .val (.int ch6), .val (.int cd4), .val (.int ch7), .val (.int ch8), .val vr_1, .val vr_2, .val vr_3, .val vr_4, .val (.ref b5), .val (.int (bI (mt (mkO cd1 ch1 ch2) (mkO cd2 ch3 ch4) (mkO cd3 ch5 ch6) (mkO cd4 ch7 ch8)))), .val (.int (1 : Int32)), .unset, .unset] [(.int (0 : Int32))])) (fun _ k => XS.iconst X10.here hx rfl (hb hby at_243) k) ?_
        refine GlW.pre (B := T10.setTop (mkF m 246 #[.val (.int p1), .val (.int p2), .val (.int p3), .val (.int p4), .val (.int cd1), .val (.int ch1), .val (.int ch2), .val (.int cd2), .val (.int ch3), .val (.int ch4), .val (.int cd3), .val (.int ch5), .val (.int ch6), .val (.int cd4), .val (.int ch7), .val (.int ch8), .val vr_1, .val vr_2, .val vr_3, .val vr_4, .val (.ref b5), .val (.int (bI (mt (mkO cd1 ch1 ch2) (mkO cd2 ch3 ch4) (mkO cd3 ch5 ch6) (mkO cd4 ch7 ch8)))), .val (.int (1 : Int32)), .val (.int (0 : Int32)), .unset] [])) (fun _ k => XS.istore X10.here hx rfl (hb hby at_244) rfl (l' := #[.val (.int p1), .val (.int p2), .val (.int p3), .val (.int p4), .val (.int cd1), .val (.int ch1), .val (.int ch2), .val (.int cd2), .val (.int ch3), .val (.int ch4), .val (.int cd3), .val (.int ch5), .val (.int ch6), .val (.int cd4), .val (.int ch7), .val (.int ch8), .val vr_1, .val vr_2, .val vr_3, .val vr_4, .val (.ref b5), .val (.int (bI (mt (mkO cd1 ch1 ch2) (mkO cd2 ch3 ch4) (mkO cd3 ch5 ch6) (mkO cd4 ch7 ch8)))), .val (.int (1 : Int32)), .val (.int (0 : Int32)), .unset]) rfl k) ?_
        refine GlW.pre (B := T10.setTop (mkF m 248 #[.val (.int p1), .val (.int p2), .val (.int p3), .val (.int p4), .val (.int cd1), .val (.int ch1), .val (.int ch2), .val (.int cd2), .val (.int ch3), .val (.int ch4), .val (.int cd3), .val (.int ch5), .val (.int ch6), .val (.int cd4), .val (.int ch7), .val (.int ch8), .val vr_1, .val vr_2, .val vr_3, .val vr_4, .val (.ref b5), .val (.int (bI (mt (mkO cd1 ch1 ch2) (mkO cd2 ch3 ch4) (mkO cd3 ch5 ch6) (mkO cd4 ch7 ch8)))), .val (.int (1 : Int32)), .val (.int (0 : Int32)), .unset] [(.int (1 : Int32))])) (fun _ k => XS.iload X10.here hx rfl (hb hby at_246) rfl k) ?_
        refine GlW.pre (B := T10.setTop (mkF m 251 #[.val (.int p1), .val (.int p2), .val (.int p3), .val (.int p4), .val (.int cd1), .val (.int ch1), .val (.int ch2), .val (.int cd2), .val (.int ch3), .val (.int ch4), .val (.int cd3), .val (.int ch5), .val (.int ch6), .val (.int cd4), .val (.int ch7), .val (.int ch8), .val vr_1, .val vr_2, .val vr_3, .val vr_4, .val (.ref b5), .val (.int (bI (mt (mkO cd1 ch1 ch2) (mkO cd2 ch3 ch4) (mkO cd3 ch5 ch6) (mkO cd4 ch7 ch8)))), .val (.int (1 : Int32)), .val (.int (0 : Int32)), .unset] [])) (fun _ k => XS.ifNo X10.here hx rfl (hb hby at_248) rfl ((if0 _ _).trans (feq (by decide : ¬ ((1 : Int32) = (0 : Int32)))).1) k) ?_
        refine GlW.pre (B := T10.setTop (mkF m 253 #[.val (.int p1), .val (.int p2), .val (.int p3), .val (.int p4), .val (.int cd1), .val (.int ch1), .val (.int ch2), .val (.int cd2), .val (.int ch3), .val (.int ch4), .val (.int cd3), .val (.int ch5), .val (.int ch6), .val (.int cd4), .val (.int ch7), .val (.int ch8), .val vr_1, .val vr_2, .val vr_3, .val vr_4, .val (.ref b5), .val (.int (bI (mt (mkO cd1 ch1 ch2) (mkO cd2 ch3 ch4) (mkO cd3 ch5 ch6) (mkO cd4 ch7 ch8)))), .val (.int (1 : Int32)), .val (.int (0 : Int32)), .unset] [(.int (0 : Int32))])) (fun _ k => XS.iload X10.here hx rfl (hb hby at_251) rfl k) ?_
        refine GlW.pre (B := T10.setTop (mkF m 260 #[.val (.int p1), .val (.int p2), .val (.int p3), .val (.int p4), .val (.int cd1), .val (.int ch1), .val (.int ch2), .val (.int cd2), .val (.int ch3), .val (.int ch4), .val (.int cd3), .val (.int ch5), .val (.int ch6), .val (.int cd4), .val (.int ch7), .val (.int ch8), .val vr_1, .val vr_2, .val vr_3, .val vr_4, .val (.ref b5), .val (.int (bI (mt (mkO cd1 ch1 ch2) (mkO cd2 ch3 ch4) (mkO cd3 ch5 ch6) (mkO cd4 ch7 ch8)))), .val (.int (1 : Int32)), .val (.int (0 : Int32)), .unset] [])) (fun _ k => XS.ifYes X10.here hx rfl (pc0 := 253) (pc' := 260) rfl (hb hby at_253) rfl ((if0 _ _).trans (teq (by decide : (0 : Int32) = (0 : Int32))).1) (by decide) (by decide) k) ?_
        refine GlW.pre (B := T10.setTop (mkF m 261 #[.val (.int p1), .val (.int p2), .val (.int p3), .val (.int p4), .val (.int cd1), .val (.int ch1), .val (.int ch2), .val (.int cd2), .val (.int ch3), .val (.int ch4), .val (.int cd3), .val (.int ch5), .val (.int ch6), .val (.int cd4), .val (.int ch7), .val (.int ch8), .val vr_1, .val vr_2, .val vr_3, .val vr_4, .val (.ref b5), .val (.int (bI (mt (mkO cd1 ch1 ch2) (mkO cd2 ch3 ch4) (mkO cd3 ch5 ch6) (mkO cd4 ch7 ch8)))), .val (.int (1 : Int32)), .val (.int (0 : Int32)), .unset] [(.int (0 : Int32))])) (fun _ k => XS.iconst X10.here hx rfl (hb hby at_260) k) ?_
        refine GlW.pre (B := T10.setTop (mkF m 263 #[.val (.int p1), .val (.int p2), .val (.int p3), .val (.int p4), .val (.int cd1), .val (.int ch1), .val (.int ch2), .val (.int cd2), .val (.int ch3), .val (.int ch4), .val (.int cd3), .val (.int ch5), .val (.int ch6), .val (.int cd4), .val (.int ch7), .val (.int ch8), .val vr_1, .val vr_2, .val vr_3, .val vr_4, .val (.ref b5), .val (.int (bI (mt (mkO cd1 ch1 ch2) (mkO cd2 ch3 ch4) (mkO cd3 ch5 ch6) (mkO cd4 ch7 ch8)))), .val (.int (1 : Int32)), .val (.int (0 : Int32)), .val (.int (0 : Int32))] [])) (fun _ k => XS.istore X10.here hx rfl (hb hby at_261) rfl (l' := #[.val (.int p1), .val (.int p2), .val (.int p3), .val (.int p4), .val (.int cd1), .val (.int ch1), .val (.int ch2), .val (.int cd2), .val (.int ch3), .val (.int ch4), .val (.int cd3), .val (.int ch5), .val (.int ch6), .val (.int cd4), .val (.int ch7), .val (.int ch8), .val vr_1, .val vr_2, .val vr_3, .val vr_4, .val (.ref b5), .val (.int (bI (mt (mkO cd1 ch1 ch2) (mkO cd2 ch3 ch4) (mkO cd3 ch5 ch6) (mkO cd4 ch7 ch8)))), .val (.int (1 : Int32)), .val (.int (0 : Int32)), .val (.int (0 : Int32))]) rfl k) ?_
        refine GlW.pre (B := T10.setTop (mkF m 265 #[.val (.int p1), .val (.int p2), .val (.int p3), .val (.int p4), .val (.int cd1), .val (.int ch1), .val (.int ch2), .val (.int cd2), .val (.int ch3), .val (.int ch4), .val (.int cd3), .val (.int ch5), .val (.int ch6), .val (.int cd4), .val (.int ch7), .val (.int ch8), .val vr_1, .val vr_2, .val vr_3, .val vr_4, .val (.ref b5), .val (.int (bI (mt (mkO cd1 ch1 ch2) (mkO cd2 ch3 ch4) (mkO cd3 ch5 ch6) (mkO cd4 ch7 ch8)))), .val (.int (1 : Int32)), .val (.int (0 : Int32)), .val (.int (0 : Int32))] [(.int (bI (mt (mkO cd1 ch1 ch2) (mkO cd2 ch3 ch4) (mkO cd3 ch5 ch6) (mkO cd4 ch7 ch8))))])) (fun _ k => XS.iload X10.here hx rfl (hb hby at_263) rfl k) ?_
        refine GlW.pre (B := T10.setTop (mkF m 267 #[.val (.int p1), .val (.int p2), .val (.int p3), .val (.int p4), .val (.int cd1), .val (.int ch1), .val (.int ch2), .val (.int cd2), .val (.int ch3), .val (.int ch4), .val (.int cd3), .val (.int ch5), .val (.int ch6), .val (.int cd4), .val (.int ch7), .val (.int ch8), .val vr_1, .val vr_2, .val vr_3, .val vr_4, .val (.ref b5), .val (.int (bI (mt (mkO cd1 ch1 ch2) (mkO cd2 ch3 ch4) (mkO cd3 ch5 ch6) (mkO cd4 ch7 ch8)))), .val (.int (1 : Int32)), .val (.int (0 : Int32)), .val (.int (0 : Int32))] [(.int (0 : Int32)), (.int (bI (mt (mkO cd1 ch1 ch2) (mkO cd2 ch3 ch4) (mkO cd3 ch5 ch6) (mkO cd4 ch7 ch8))))])) (fun _ k => XS.iload X10.here hx rfl (hb hby at_265) rfl k) ?_
        refine GlW.pre (B := T10.setTop (mkF m 270 #[.val (.int p1), .val (.int p2), .val (.int p3), .val (.int p4), .val (.int cd1), .val (.int ch1), .val (.int ch2), .val (.int cd2), .val (.int ch3), .val (.int ch4), .val (.int cd3), .val (.int ch5), .val (.int ch6), .val (.int cd4), .val (.int ch7), .val (.int ch8), .val vr_1, .val vr_2, .val vr_3, .val vr_4, .val (.ref b5), .val (.int (bI (mt (mkO cd1 ch1 ch2) (mkO cd2 ch3 ch4) (mkO cd3 ch5 ch6) (mkO cd4 ch7 ch8)))), .val (.int (1 : Int32)), .val (.int (0 : Int32)), .val (.int (0 : Int32))] [])) (fun _ k => XS.icmpNo X10.here hx rfl (hb hby at_267) rfl (teq (by rw [mt2 r_cd1 r_cd3 r_cd2 r_cd4]; simp [bI, hc187_8, hc218_9, hc236_11] : (bI (mt (mkO cd1 ch1 ch2) (mkO cd2 ch3 ch4) (mkO cd3 ch5 ch6) (mkO cd4 ch7 ch8))) = (0 : Int32))).2 k) ?_
        refine GlW.pre (B := T10.setTop (mkF m 271 #[.val (.int p1), .val (.int p2), .val (.int p3), .val (.int p4), .val (.int cd1), .val (.int ch1), .val (.int ch2), .val (.int cd2), .val (.int ch3), .val (.int ch4), .val (.int cd3), .val (.int ch5), .val (.int ch6), .val (.int cd4), .val (.int ch7), .val (.int ch8), .val vr_1, .val vr_2, .val vr_3, .val vr_4, .val (.ref b5), .val (.int (bI (mt (mkO cd1 ch1 ch2) (mkO cd2 ch3 ch4) (mkO cd3 ch5 ch6) (mkO cd4 ch7 ch8)))), .val (.int (1 : Int32)), .val (.int (0 : Int32)), .val (.int (0 : Int32))] [(.int (1 : Int32))])) (fun _ k => XS.iconst X10.here hx rfl (hb hby at_270) k) ?_
        refine GlW.pre (B := T10.setTop (mkF m 275 #[.val (.int p1), .val (.int p2), .val (.int p3), .val (.int p4), .val (.int cd1), .val (.int ch1), .val (.int ch2), .val (.int cd2), .val (.int ch3), .val (.int ch4), .val (.int cd3), .val (.int ch5), .val (.int ch6), .val (.int cd4), .val (.int ch7), .val (.int ch8), .val vr_1, .val vr_2, .val vr_3, .val vr_4, .val (.ref b5), .val (.int (bI (mt (mkO cd1 ch1 ch2) (mkO cd2 ch3 ch4) (mkO cd3 ch5 ch6) (mkO cd4 ch7 ch8)))), .val (.int (1 : Int32)), .val (.int (0 : Int32)), .val (.int (0 : Int32))] [(.int (1 : Int32))])) (fun _ k => XS.goto X10.here hx rfl (pc0 := 271) (pc' := 275) rfl (hb hby at_271) (by decide) (by decide) k) ?_
        refine GlW.out X10 hsh e10 hS4 hk6 hZ4 hEL CR (v := some (.int (1 : Int32))) (fun h => by rw [hret] at h; cases h) hlk (fun fs hr => retN X10 hx (t := .boolean) hret (by simp) (hb hby at_275) hr) ?_ (by decide) (by decide)
        show Q_rm0 Z _ _ _ _ _ h0 n0 _ T10.heap _
        rw [e10]
        exact ⟨rfl, N10⟩
  · refine GlW.pre (B := T7.setTop (mkF m 190 #[.val (.int p1), .val (.int p2), .val (.int p3), .val (.int p4), .val (.int cd1), .val (.int ch1), .val (.int ch2), .val (.int cd2), .val (.int ch3), .val (.int ch4), .val (.int cd3), .val (.int ch5), .val (.int ch6), .val (.int cd4), .val (.int ch7), .val (.int ch8), .val vr_1, .val vr_2, .val vr_3, .val vr_4, .val (.ref b5), .val (.int (bI (mt (mkO cd1 ch1 ch2) (mkO cd2 ch3 ch4) (mkO cd3 ch5 ch6) (mkO cd4 ch7 ch8)))), .unset, .unset, .unset] [])) (fun _ k => XS.icmpNo X7.here hx rfl (hb hby at_187) rfl (feq hc187_8).1 k) ?_
    refine GlW.pre (B := T7.setTop (mkF m 192 #[.val (.int p1), .val (.int p2), .val (.int p3), .val (.int p4), .val (.int cd1), .val (.int ch1), .val (.int ch2), .val (.int cd2), .val (.int ch3), .val (.int ch4), .val (.int cd3), .val (.int ch5), .val (.int ch6), .val (.int cd4), .val (.int ch7), .val (.int ch8), .val vr_1, .val vr_2, .val vr_3, .val vr_4, .val (.ref b5), .val (.int (bI (mt (mkO cd1 ch1 ch2) (mkO cd2 ch3 ch4) (mkO cd3 ch5 ch6) (mkO cd4 ch7 ch8)))), .unset, .unset, .unset] [(.int cd1)])) (fun _ k => XS.iload X7.here hx rfl (hb hby at_190) rfl k) ?_
    refine GlW.pre (B := T7.setTop (mkF m 194 #[.val (.int p1), .val (.int p2), .val (.int p3), .val (.int p4), .val (.int cd1), .val (.int ch1), .val (.int ch2), .val (.int cd2), .val (.int ch3), .val (.int ch4), .val (.int cd3), .val (.int ch5), .val (.int ch6), .val (.int cd4), .val (.int ch7), .val (.int ch8), .val vr_1, .val vr_2, .val vr_3, .val vr_4, .val (.ref b5), .val (.int (bI (mt (mkO cd1 ch1 ch2) (mkO cd2 ch3 ch4) (mkO cd3 ch5 ch6) (mkO cd4 ch7 ch8)))), .unset, .unset, .unset] [(.int ch1), (.int cd1)])) (fun _ k => XS.iload X7.here hx rfl (hb hby at_192) rfl k) ?_
    refine GlW.pre (B := T7.setTop (mkF m 196 #[.val (.int p1), .val (.int p2), .val (.int p3), .val (.int p4), .val (.int cd1), .val (.int ch1), .val (.int ch2), .val (.int cd2), .val (.int ch3), .val (.int ch4), .val (.int cd3), .val (.int ch5), .val (.int ch6), .val (.int cd4), .val (.int ch7), .val (.int ch8), .val vr_1, .val vr_2, .val vr_3, .val vr_4, .val (.ref b5), .val (.int (bI (mt (mkO cd1 ch1 ch2) (mkO cd2 ch3 ch4) (mkO cd3 ch5 ch6) (mkO cd4 ch7 ch8)))), .unset, .unset, .unset] [(.int ch2), (.int ch1), (.int cd1)])) (fun _ k => XS.iload X7.here hx rfl (hb hby at_194) rfl k) ?_
    refine GlW.pre (B := T7.setTop (mkF m 198 #[.val (.int p1), .val (.int p2), .val (.int p3), .val (.int p4), .val (.int cd1), .val (.int ch1), .val (.int ch2), .val (.int cd2), .val (.int ch3), .val (.int ch4), .val (.int cd3), .val (.int ch5), .val (.int ch6), .val (.int cd4), .val (.int ch7), .val (.int ch8), .val vr_1, .val vr_2, .val vr_3, .val vr_4, .val (.ref b5), .val (.int (bI (mt (mkO cd1 ch1 ch2) (mkO cd2 ch3 ch4) (mkO cd3 ch5 ch6) (mkO cd4 ch7 ch8)))), .unset, .unset, .unset] [(.int cd3), (.int ch2), (.int ch1), (.int cd1)])) (fun _ k => XS.iload X7.here hx rfl (hb hby at_196) rfl k) ?_
    refine GlW.pre (B := T7.setTop (mkF m 200 #[.val (.int p1), .val (.int p2), .val (.int p3), .val (.int p4), .val (.int cd1), .val (.int ch1), .val (.int ch2), .val (.int cd2), .val (.int ch3), .val (.int ch4), .val (.int cd3), .val (.int ch5), .val (.int ch6), .val (.int cd4), .val (.int ch7), .val (.int ch8), .val vr_1, .val vr_2, .val vr_3, .val vr_4, .val (.ref b5), .val (.int (bI (mt (mkO cd1 ch1 ch2) (mkO cd2 ch3 ch4) (mkO cd3 ch5 ch6) (mkO cd4 ch7 ch8)))), .unset, .unset, .unset] [(.int ch5), (.int cd3), (.int ch2), (.int ch1), (.int cd1)])) (fun _ k => XS.iload X7.here hx rfl (hb hby at_198) rfl k) ?_
    refine GlW.pre (B := T7.setTop (mkF m 202 #[.val (.int p1), .val (.int p2), .val (.int p3), .val (.int p4), .val (.int cd1), .val (.int ch1), .val (.int ch2), .val (.int cd2), .val (.int ch3), .val (.int ch4), .val (.int cd3), .val (.int ch5), .val (.int ch6), .val (.int cd4), .val (.int ch7), .val (.int ch8), .val vr_1, .val vr_2, .val vr_3, .val vr_4, .val (.ref b5), .val (.int (bI (mt (mkO cd1 ch1 ch2) (mkO cd2 ch3 ch4) (mkO cd3 ch5 ch6) (mkO cd4 ch7 ch8)))), .unset, .unset, .unset] [(.int ch6), (.int ch5), (.int cd3), (.int ch2), (.int ch1), (.int cd1)])) (fun _ k => XS.iload X7.here hx rfl (hb hby at_200) rfl k) ?_
    obtain ⟨rv12, _, ⟨T12, L12, k12, n12⟩, -, X12, ⟨Lc12, hQ12, l12, y12, z12⟩, st12⟩ := Jvm.LawKit.callS X7 hx (y := (⟨"com/example/tranquility/tranquility/NameTestMatchesPinLaw", "same", "(ICCICC)Z"⟩ : MethodName)) ho4 (mvT hZ4 (hw _ (List.mem_of_getElem? (i := 68) rfl))) (mvT hZ4 (hw _ (List.mem_of_getElem? (i := 69) rfl))) (mvT hZ4 (hw _ (List.mem_of_getElem? (i := 2) rfl))) (mvT hZ4 (hw _ (List.mem_of_getElem? (i := 70) rfl))) (by decide) (backOf (W := 0) (sme l Z a0 hw [] cd1 ch1 ch2 cd3 ch5 ch6 T6.heap n0 Z0 ) hZ4 (hw _ (List.mem_of_getElem? (i := 70) rfl)) (hw _ (List.mem_of_getElem? (i := 2) rfl)) (by decide) (by decide)) (g := (mkF m 202 #[.val (.int p1), .val (.int p2), .val (.int p3), .val (.int p4), .val (.int cd1), .val (.int ch1), .val (.int ch2), .val (.int cd2), .val (.int ch3), .val (.int ch4), .val (.int cd3), .val (.int ch5), .val (.int ch6), .val (.int cd4), .val (.int ch7), .val (.int ch8), .val vr_1, .val vr_2, .val vr_3, .val vr_4, .val (.ref b5), .val (.int (bI (mt (mkO cd1 ch1 ch2) (mkO cd2 ch3 ch4) (mkO cd3 ch5 ch6) (mkO cd4 ch7 ch8)))), .unset, .unset, .unset] [(.int ch6), (.int ch5), (.int cd3), (.int ch2), (.int ch1), (.int cd1)])) rfl (by rw [hml]; rfl) (argsL := [(.int cd1), (.int ch1), (.int ch2), (.int cd3), (.int ch5), (.int ch6)]) (rest := []) (lenOf pd_7 rfl) rfl (by show 2 * 0 + _ ≤ _; exact Nat.le_of_eq rfl) (hb hby at_202) (fun _ _ => ⟨rfl, e7, (by decide : 25 + 0 ≤ _), (by decide : 50 + 0 ≤ _)⟩)
    dsimp only [Pt.U, Pt.locs, Pt.cells, Pt.slots] at X12 l12 y12 z12 st12 hQ12
    subst l12 y12 z12
    obtain ⟨rfl, N12q, e12⟩ := hQ12
    have N12 := Fr.app N7 N12q
    refine GlW.pre (B := T12.setTop (mkF m 205 #[.val (.int p1), .val (.int p2), .val (.int p3), .val (.int p4), .val (.int cd1), .val (.int ch1), .val (.int ch2), .val (.int cd2), .val (.int ch3), .val (.int ch4), .val (.int cd3), .val (.int ch5), .val (.int ch6), .val (.int cd4), .val (.int ch7), .val (.int ch8), .val vr_1, .val vr_2, .val vr_3, .val vr_4, .val (.ref b5), .val (.int (bI (mt (mkO cd1 ch1 ch2) (mkO cd2 ch3 ch4) (mkO cd3 ch5 ch6) (mkO cd4 ch7 ch8)))), .unset, .unset, .unset] [(.int (bI (sm cd1 ch1 ch2 cd3 ch5 ch6)))])) (fun _ k => st12 _ k) ?_
    rcases Bool.eq_false_or_eq_true (sm cd1 ch1 ch2 cd3 ch5 ch6) with hc205_13 | hc205_13
    · refine GlW.pre (B := T12.setTop (mkF m 208 #[.val (.int p1), .val (.int p2), .val (.int p3), .val (.int p4), .val (.int cd1), .val (.int ch1), .val (.int ch2), .val (.int cd2), .val (.int ch3), .val (.int ch4), .val (.int cd3), .val (.int ch5), .val (.int ch6), .val (.int cd4), .val (.int ch7), .val (.int ch8), .val vr_1, .val vr_2, .val vr_3, .val vr_4, .val (.ref b5), .val (.int (bI (mt (mkO cd1 ch1 ch2) (mkO cd2 ch3 ch4) (mkO cd3 ch5 ch6) (mkO cd4 ch7 ch8)))), .unset, .unset, .unset] [])) (fun _ k => XS.ifNo X12.here hx rfl (hb hby at_205) rfl ((if0 _ _).trans (feq (bI_t hc205_13)).1) k) ?_
      refine GlW.pre (B := T12.setTop (mkF m 209 #[.val (.int p1), .val (.int p2), .val (.int p3), .val (.int p4), .val (.int cd1), .val (.int ch1), .val (.int ch2), .val (.int cd2), .val (.int ch3), .val (.int ch4), .val (.int cd3), .val (.int ch5), .val (.int ch6), .val (.int cd4), .val (.int ch7), .val (.int ch8), .val vr_1, .val vr_2, .val vr_3, .val vr_4, .val (.ref b5), .val (.int (bI (mt (mkO cd1 ch1 ch2) (mkO cd2 ch3 ch4) (mkO cd3 ch5 ch6) (mkO cd4 ch7 ch8)))), .unset, .unset, .unset] [(.int (1 : Int32))])) (fun _ k => XS.iconst X12.here hx rfl (hb hby at_208) k) ?_
      refine GlW.pre (B := T12.setTop (mkF m 213 #[.val (.int p1), .val (.int p2), .val (.int p3), .val (.int p4), .val (.int cd1), .val (.int ch1), .val (.int ch2), .val (.int cd2), .val (.int ch3), .val (.int ch4), .val (.int cd3), .val (.int ch5), .val (.int ch6), .val (.int cd4), .val (.int ch7), .val (.int ch8), .val vr_1, .val vr_2, .val vr_3, .val vr_4, .val (.ref b5), .val (.int (bI (mt (mkO cd1 ch1 ch2) (mkO cd2 ch3 ch4) (mkO cd3 ch5 ch6) (mkO cd4 ch7 ch8)))), .unset, .unset, .unset] [(.int (1 : Int32))])) (fun _ k => XS.goto X12.here hx rfl (pc0 := 209) (pc' := 213) rfl (hb hby at_209) (by decide) (by decide) k) ?_
      refine GlW.pre (B := T12.setTop (mkF m 215 #[.val (.int p1), .val (.int p2), .val (.int p3), .val (.int p4), .val (.int cd1), .val (.int ch1), .val (.int ch2), .val (.int cd2), .val (.int ch3), .val (.int ch4), .val (.int cd3), .val (.int ch5), .val (.int ch6), .val (.int cd4), .val (.int ch7), .val (.int ch8), .val vr_1, .val vr_2, .val vr_3, .val vr_4, .val (.ref b5), .val (.int (bI (mt (mkO cd1 ch1 ch2) (mkO cd2 ch3 ch4) (mkO cd3 ch5 ch6) (mkO cd4 ch7 ch8)))), .val (.int (1 : Int32)), .unset, .unset] [])) (fun _ k => XS.istore X12.here hx rfl (hb hby at_213) rfl (l' := #[.val (.int p1), .val (.int p2), .val (.int p3), .val (.int p4), .val (.int cd1), .val (.int ch1), .val (.int ch2), .val (.int cd2), .val (.int ch3), .val (.int ch4), .val (.int cd3), .val (.int ch5), .val (.int ch6), .val (.int cd4), .val (.int ch7), .val (.int ch8), .val vr_1, .val vr_2, .val vr_3, .val vr_4, .val (.ref b5), .val (.int (bI (mt (mkO cd1 ch1 ch2) (mkO cd2 ch3 ch4) (mkO cd3 ch5 ch6) (mkO cd4 ch7 ch8)))), .val (.int (1 : Int32)), .unset, .unset]) rfl k) ?_
      refine GlW.pre (B := T12.setTop (mkF m 217 #[.val (.int p1), .val (.int p2), .val (.int p3), .val (.int p4), .val (.int cd1), .val (.int ch1), .val (.int ch2), .val (.int cd2), .val (.int ch3), .val (.int ch4), .val (.int cd3), .val (.int ch5), .val (.int ch6), .val (.int cd4), .val (.int ch7), .val (.int ch8), .val vr_1, .val vr_2, .val vr_3, .val vr_4, .val (.ref b5), .val (.int (bI (mt (mkO cd1 ch1 ch2) (mkO cd2 ch3 ch4) (mkO cd3 ch5 ch6) (mkO cd4 ch7 ch8)))), .val (.int (1 : Int32)), .unset, .unset] [(.int cd2)])) (fun _ k => XS.iload X12.here hx rfl (hb hby at_215) rfl k) ?_
      refine GlW.pre (B := T12.setTop (mkF m 218 #[.val (.int p1), .val (.int p2), .val (.int p3), .val (.int p4), .val (.int cd1), .val (.int ch1), .val (.int ch2), .val (.int cd2), .val (.int ch3), .val (.int ch4), .val (.int cd3), .val (.int ch5), .val (.int ch6), .val (.int cd4), .val (.int ch7), .val (.int ch8), .val vr_1, .val vr_2, .val vr_3, .val vr_4, .val (.ref b5), .val (.int (bI (mt (mkO cd1 ch1 ch2) (mkO cd2 ch3 ch4) (mkO cd3 ch5 ch6) (mkO cd4 ch7 ch8)))), .val (.int (1 : Int32)), .unset, .unset] [(.int (3 : Int32)), (.int cd2)])) (fun _ k => XS.iconst X12.here hx rfl (hb hby at_217) k) ?_
      by_cases hc218_14 : cd2 = (3 : Int32)
      · refine GlW.pre (B := T12.setTop (mkF m 239 #[.val (.int p1), .val (.int p2), .val (.int p3), .val (.int p4), .val (.int cd1), .val (.int ch1), .val (.int ch2), .val (.int cd2), .val (.int ch3), .val (.int ch4), .val (.int cd3), .val (.int ch5), .val (.int ch6), .val (.int cd4), .val (.int ch7), .val (.int ch8), .val vr_1, .val vr_2, .val vr_3, .val vr_4, .val (.ref b5), .val (.int (bI (mt (mkO cd1 ch1 ch2) (mkO cd2 ch3 ch4) (mkO cd3 ch5 ch6) (mkO cd4 ch7 ch8)))), .val (.int (1 : Int32)), .unset, .unset] [])) (fun _ k => XS.icmpYes X12.here hx rfl (pc0 := 218) (pc' := 239) rfl (hb hby at_218) rfl (teq hc218_14).1 (by decide) (by decide) k) ?_
        refine GlW.pre (B := T12.setTop (mkF m 240 #[.val (.int p1), .val (.int p2), .val (.int p3), .val (.int p4), .val (.int cd1), .val (.int ch1), .val (.int ch2), .val (.int cd2), .val (.int ch3), .val (.int ch4), .val (.int cd3), .val (.int ch5), .val (.int ch6), .val (.int cd4), .val (.int ch7), .val (.int ch8), .val vr_1, .val vr_2, .val vr_3, .val vr_4, .val (.ref b5), .val (.int (bI (mt (mkO cd1 ch1 ch2) (mkO cd2 ch3 ch4) (mkO cd3 ch5 ch6) (mkO cd4 ch7 ch8)))), .val (.int (1 : Int32)), .unset, .unset] [(.int (1 : Int32))])) (fun _ k => XS.iconst X12.here hx rfl (hb hby at_239) k) ?_
        refine GlW.pre (B := T12.setTop (mkF m 244 #[.val (.int p1), .val (.int p2), .val (.int p3), .val (.int p4), .val (.int cd1), .val (.int ch1), .val (.int ch2), .val (.int cd2), .val (.int ch3), .val (.int ch4), .val (.int cd3), .val (.int ch5), .val (.int ch6), .val (.int cd4), .val (.int ch7), .val (.int ch8), .val vr_1, .val vr_2, .val vr_3, .val vr_4, .val (.ref b5), .val (.int (bI (mt (mkO cd1 ch1 ch2) (mkO cd2 ch3 ch4) (mkO cd3 ch5 ch6) (mkO cd4 ch7 ch8)))), .val (.int (1 : Int32)), .unset, .unset] [(.int (1 : Int32))])) (fun _ k => XS.goto X12.here hx rfl (pc0 := 240) (pc' := 244) rfl (hb hby at_240) (by decide) (by decide) k) ?_
        refine GlW.pre (B := T12.setTop (mkF m 246 #[.val (.int p1), .val (.int p2), .val (.int p3), .val (.int p4), .val (.int cd1), .val (.int ch1), .val (.int ch2), .val (.int cd2), .val (.int ch3), .val (.int ch4), .val (.int cd3), .val (.int ch5), .val (.int ch6), .val (.int cd4), .val (.int ch7), .val (.int ch8), .val vr_1, .val vr_2, .val vr_3, .val vr_4, .val (.ref b5), .val (.int (bI (mt (mkO cd1 ch1 ch2) (mkO cd2 ch3 ch4) (mkO cd3 ch5 ch6) (mkO cd4 ch7 ch8)))), .val (.int (1 : Int32)), .val (.int (1 : Int32)), .unset] [])) (fun _ k => XS.istore X12.here hx rfl (hb hby at_244) rfl (l' := #[.val (.int p1), .val (.int p2), .val (.int p3), .val (.int p4), .val (.int cd1), .val (.int ch1), .val (.int ch2), .val (.int cd2), .val (.int ch3), .val (.int ch4), .val (.int cd3), .val (.int ch5), .val (.int ch6), .val (.int cd4), .val (.int ch7), .val (.int ch8), .val vr_1, .val vr_2, .val vr_3, .val vr_4, .val (.ref b5), .val (.int (bI (mt (mkO cd1 ch1 ch2) (mkO cd2 ch3 ch4) (mkO cd3 ch5 ch6) (mkO cd4 ch7 ch8)))), .val (.int (1 : Int32)), .val (.int (1 : Int32)), .unset]) rfl k) ?_
        refine GlW.pre (B := T12.setTop (mkF m 248 #[.val (.int p1), .val (.int p2), .val (.int p3), .val (.int p4), .val (.int cd1), .val (.int ch1), .val (.int ch2), .val (.int cd2), .val (.int ch3), .val (.int ch4), .val (.int cd3), .val (.int ch5), .val (.int ch6), .val (.int cd4), .val (.int ch7), .val (.int ch8), .val vr_1, .val vr_2, .val vr_3, .val vr_4, .val (.ref b5), .val (.int (bI (mt (mkO cd1 ch1 ch2) (mkO cd2 ch3 ch4) (mkO cd3 ch5 ch6) (mkO cd4 ch7 ch8)))), .val (.int (1 : Int32)), .val (.int (1 : Int32)), .unset] [(.int (1 : Int32))])) (fun _ k => XS.iload X12.here hx rfl (hb hby at_246) rfl k) ?_
        refine GlW.pre (B := T12.setTop (mkF m 251 #[.val (.int p1), .val (.int p2), .val (.int p3), .val (.int p4), .val (.int cd1), .val (.int ch1), .val (.int ch2), .val (.int cd2), .val (.int ch3), .val (.int ch4), .val (.int cd3), .val (.int ch5), .val (.int ch6), .val (.int cd4), .val (.int ch7), .val (.int ch8), .val vr_1, .val vr_2, .val vr_3, .val vr_4, .val (.ref b5), .val (.int (bI (mt (mkO cd1 ch1 ch2) (mkO cd2 ch3 ch4) (mkO cd3 ch5 ch6) (mkO cd4 ch7 ch8)))), .val (.int (1 : Int32)), .val (.int (1 : Int32)), .unset] [])) (fun _ k => XS.ifNo X12.here hx rfl (hb hby at_248) rfl ((if0 _ _).trans (feq (by decide : ¬ ((1 : Int32) = (0 : Int32)))).1) k) ?_
        refine GlW.pre (B := T12.setTop (mkF m 253 #[.val (.int p1), .val (.int p2), .val (.int p3), .val (.int p4), .val (.int cd1), .val (.int ch1), .val (.int ch2), .val (.int cd2), .val (.int ch3), .val (.int ch4), .val (.int cd3), .val (.int ch5), .val (.int ch6), .val (.int cd4), .val (.int ch7), .val (.int ch8), .val vr_1, .val vr_2, .val vr_3, .val vr_4, .val (.ref b5), .val (.int (bI (mt (mkO cd1 ch1 ch2) (mkO cd2 ch3 ch4) (mkO cd3 ch5 ch6) (mkO cd4 ch7 ch8)))), .val (.int (1 : Int32)), .val (.int (1 : Int32)), .unset] [(.int (1 : Int32))])) (fun _ k => XS.iload X12.here hx rfl (hb hby at_251) rfl k) ?_
        refine GlW.pre (B := T12.setTop (mkF m 256 #[.val (.int p1), .val (.int p2), .val (.int p3), .val (.int p4), .val (.int cd1), .val (.int ch1), .val (.int ch2), .val (.int cd2), .val (.int ch3), .val (.int ch4), .val (.int cd3), .val (.int ch5), .val (.int ch6), .val (.int cd4), .val (.int ch7), .val (.int ch8), .val vr_1, .val vr_2, .val vr_3, .val vr_4, .val (.ref b5), .val (.int (bI (mt (mkO cd1 ch1 ch2) (mkO cd2 ch3 ch4) (mkO cd3 ch5 ch6) (mkO cd4 ch7 ch8)))), .val (.int (1 : Int32)), .val (.int (1 : Int32)), .unset] [])) (fun _ k => XS.ifNo X12.here hx rfl (hb hby at_253) rfl ((if0 _ _).trans (feq (by decide : ¬ ((1 : Int32) = (0 : Int32)))).1) k) ?_
        refine GlW.pre (B := T12.setTop (mkF m 257 #[.val (.int p1), .val (.int p2), .val (.int p3), .val (.int p4), .val (.int cd1), .val (.int ch1), .val (.int ch2), .val (.int cd2), .val (.int ch3), .val (.int ch4), .val (.int cd3), .val (.int ch5), .val (.int ch6), .val (.int cd4), .val (.int ch7), .val (.int ch8), .val vr_1, .val vr_2, .val vr_3, .val vr_4, .val (.ref b5), .val (.int (bI (mt (mkO cd1 ch1 ch2) (mkO cd2 ch3 ch4) (mkO cd3 ch5 ch6) (mkO cd4 ch7 ch8)))), .val (.int (1 : Int32)), .val (.int (1 : Int32)), .unset] [(.int (1 : Int32))])) (fun _ k => XS.iconst X12.here hx rfl (hb hby at_256) k) ?_
        refine GlW.pre (B := T12.setTop (mkF m 261 #[.val (.int p1), .val (.int p2), .val (.int p3), .val (.int p4), .val (.int cd1), .val (.int ch1), .val (.int ch2), .val (.int cd2), .val (.int ch3), .val (.int ch4), .val (.int cd3), .val (.int ch5), .val (.int ch6), .val (.int cd4), .val (.int ch7), .val (.int ch8), .val vr_1, .val vr_2, .val vr_3, .val vr_4, .val (.ref b5), .val (.int (bI (mt (mkO cd1 ch1 ch2) (mkO cd2 ch3 ch4) (mkO cd3 ch5 ch6) (mkO cd4 ch7 ch8)))), .val (.int (1 : Int32)), .val (.int (1 : Int32)), .unset] [(.int (1 : Int32))])) (fun _ k => XS.goto X12.here hx rfl (pc0 := 257) (pc' := 261) rfl (hb hby at_257) (by decide) (by decide) k) ?_
        refine GlW.pre (B := T12.setTop (mkF m 263 #[.val (.int p1), .val (.int p2), .val (.int p3), .val (.int p4), .val (.int cd1), .val (.int ch1), .val (.int ch2), .val (.int cd2), .val (.int ch3), .val (.int ch4), .val (.int cd3), .val (.int ch5), .val (.int ch6), .val (.int cd4), .val (.int ch7), .val (.int ch8), .val vr_1, .val vr_2, .val vr_3, .val vr_4, .val (.ref b5), .val (.int (bI (mt (mkO cd1 ch1 ch2) (mkO cd2 ch3 ch4) (mkO cd3 ch5 ch6) (mkO cd4 ch7 ch8)))), .val (.int (1 : Int32)), .val (.int (1 : Int32)), .val (.int (1 : Int32))] [])) (fun _ k => XS.istore X12.here hx rfl (hb hby at_261) rfl (l' := #[.val (.int p1), .val (.int p2), .val (.int p3), .val (.int p4), .val (.int cd1), .val (.int ch1), .val (.int ch2), .val (.int cd2), .val (.int ch3), .val (.int ch4), .val (.int cd3), .val (.int ch5), .val (.int ch6), .val (.int cd4), .val (.int ch7), .val (.int ch8), .val vr_1, .val vr_2, .val vr_3, .val vr_4, .val (.ref b5), .val (.int (bI (mt (mkO cd1 ch1 ch2) (mkO cd2 ch3 ch4) (mkO cd3 ch5 ch6) (mkO cd4 ch7 ch8)))), .val (.int (1 : Int32)), .val (.int (1 : Int32)), .val (.int (1 : Int32))]) rfl k) ?_
        refine GlW.pre (B := T12.setTop (mkF m 265 #[.val (.int p1), .val (.int p2), .val (.int p3), .val (.int p4), .val (.int cd1), .val (.int ch1), .val (.int ch2), .val (.int cd2), .val (.int ch3), .val (.int ch4), .val (.int cd3), .val (.int ch5), .val (.int ch6), .val (.int cd4), .val (.int ch7), .val (.int ch8), .val vr_1, .val vr_2, .val vr_3, .val vr_4, .val (.ref b5), .val (.int (bI (mt (mkO cd1 ch1 ch2) (mkO cd2 ch3 ch4) (mkO cd3 ch5 ch6) (mkO cd4 ch7 ch8)))), .val (.int (1 : Int32)), .val (.int (1 : Int32)), .val (.int (1 : Int32))] [(.int (bI (mt (mkO cd1 ch1 ch2) (mkO cd2 ch3 ch4) (mkO cd3 ch5 ch6) (mkO cd4 ch7 ch8))))])) (fun _ k => XS.iload X12.here hx rfl (hb hby at_263) rfl k) ?_
        refine GlW.pre (B := T12.setTop (mkF m 267 #[.val (.int p1), .val (.int p2), .val (.int p3), .val (.int p4), .val (.int cd1), .val (.int ch1), .val (.int ch2), .val (.int cd2), .val (.int ch3), .val (.int ch4), .val (.int cd3), .val (.int ch5), .val (.int ch6), .val (.int cd4), .val (.int ch7), .val (.int ch8), .val vr_1, .val vr_2, .val vr_3, .val vr_4, .val (.ref b5), .val (.int (bI (mt (mkO cd1 ch1 ch2) (mkO cd2 ch3 ch4) (mkO cd3 ch5 ch6) (mkO cd4 ch7 ch8)))), .val (.int (1 : Int32)), .val (.int (1 : Int32)), .val (.int (1 : Int32))] [(.int (1 : Int32)), (.int (bI (mt (mkO cd1 ch1 ch2) (mkO cd2 ch3 ch4) (mkO cd3 ch5 ch6) (mkO cd4 ch7 ch8))))])) (fun _ k => XS.iload X12.here hx rfl (hb hby at_265) rfl k) ?_
        refine GlW.pre (B := T12.setTop (mkF m 270 #[.val (.int p1), .val (.int p2), .val (.int p3), .val (.int p4), .val (.int cd1), .val (.int ch1), .val (.int ch2), .val (.int cd2), .val (.int ch3), .val (.int ch4), .val (.int cd3), .val (.int ch5), .val (.int ch6), .val (.int cd4), .val (.int ch7), .val (.int ch8), .val vr_1, .val vr_2, .val vr_3, .val vr_4, .val (.ref b5), .val (.int (bI (mt (mkO cd1 ch1 ch2) (mkO cd2 ch3 ch4) (mkO cd3 ch5 ch6) (mkO cd4 ch7 ch8)))), .val (.int (1 : Int32)), .val (.int (1 : Int32)), .val (.int (1 : Int32))] [])) (fun _ k => XS.icmpNo X12.here hx rfl (hb hby at_267) rfl (teq (by rw [mt2 r_cd1 r_cd3 r_cd2 r_cd4]; simp [bI, hc187_8, hc205_13, hc218_14] : (bI (mt (mkO cd1 ch1 ch2) (mkO cd2 ch3 ch4) (mkO cd3 ch5 ch6) (mkO cd4 ch7 ch8))) = (1 : Int32))).2 k) ?_
        refine GlW.pre (B := T12.setTop (mkF m 271 #[.val (.int p1), .val (.int p2), .val (.int p3), .val (.int p4), .val (.int cd1), .val (.int ch1), .val (.int ch2), .val (.int cd2), .val (.int ch3), .val (.int ch4), .val (.int cd3), .val (.int ch5), .val (.int ch6), .val (.int cd4), .val (.int ch7), .val (.int ch8), .val vr_1, .val vr_2, .val vr_3, .val vr_4, .val (.ref b5), .val (.int (bI (mt (mkO cd1 ch1 ch2) (mkO cd2 ch3 ch4) (mkO cd3 ch5 ch6) (mkO cd4 ch7 ch8)))), .val (.int (1 : Int32)), .val (.int (1 : Int32)), .val (.int (1 : Int32))] [(.int (1 : Int32))])) (fun _ k => XS.iconst X12.here hx rfl (hb hby at_270) k) ?_
        refine GlW.pre (B := T12.setTop (mkF m 275 #[.val (.int p1), .val (.int p2), .val (.int p3), .val (.int p4), .val (.int cd1), .val (.int ch1), .val (.int ch2), .val (.int cd2), .val (.int ch3), .val (.int ch4), .val (.int cd3), .val (.int ch5), .val (.int ch6), .val (.int cd4), .val (.int ch7), .val (.int ch8), .val vr_1, .val vr_2, .val vr_3, .val vr_4, .val (.ref b5), .val (.int (bI (mt (mkO cd1 ch1 ch2) (mkO cd2 ch3 ch4) (mkO cd3 ch5 ch6) (mkO cd4 ch7 ch8)))), .val (.int (1 : Int32)), .val (.int (1 : Int32)), .val (.int (1 : Int32))] [(.int (1 : Int32))])) (fun _ k => XS.goto X12.here hx rfl (pc0 := 271) (pc' := 275) rfl (hb hby at_271) (by decide) (by decide) k) ?_
        refine GlW.out X12 hsh e12 hS4 hk6 hZ4 hEL CR (v := some (.int (1 : Int32))) (fun h => by rw [hret] at h; cases h) hlk (fun fs hr => retN X12 hx (t := .boolean) hret (by simp) (hb hby at_275) hr) ?_ (by decide) (by decide)
        show Q_rm0 Z _ _ _ _ _ h0 n0 _ T12.heap _
        rw [e12]
        exact ⟨rfl, N12⟩
      · refine GlW.pre (B := T12.setTop (mkF m 221 #[.val (.int p1), .val (.int p2), .val (.int p3), .val (.int p4), .val (.int cd1), .val (.int ch1), .val (.int ch2), .val (.int cd2), .val (.int ch3), .val (.int ch4), .val (.int cd3), .val (.int ch5), .val (.int ch6), .val (.int cd4), .val (.int ch7), .val (.int ch8), .val vr_1, .val vr_2, .val vr_3, .val vr_4, .val (.ref b5), .val (.int (bI (mt (mkO cd1 ch1 ch2) (mkO cd2 ch3 ch4) (mkO cd3 ch5 ch6) (mkO cd4 ch7 ch8)))), .val (.int (1 : Int32)), .unset, .unset] [])) (fun _ k => XS.icmpNo X12.here hx rfl (hb hby at_218) rfl (feq hc218_14).1 k) ?_
        refine GlW.pre (B := T12.setTop (mkF m 223 #[.val (.int p1), .val (.int p2), .val (.int p3), .val (.int p4), .val (.int cd1), .val (.int ch1), .val (.int ch2), .val (.int cd2), .val (.int ch3), .val (.int ch4), .val (.int cd3), .val (.int ch5), .val (.int ch6), .val (.int cd4), .val (.int ch7), .val (.int ch8), .val vr_1, .val vr_2, .val vr_3, .val vr_4, .val (.ref b5), .val (.int (bI (mt (mkO cd1 ch1 ch2) (mkO cd2 ch3 ch4) (mkO cd3 ch5 ch6) (mkO cd4 ch7 ch8)))), .val (.int (1 : Int32)), .unset, .unset] [(.int cd2)])) (fun _ k => XS.iload X12.here hx rfl (hb hby at_221) rfl k) ?_
        refine GlW.pre (B := T12.setTop (mkF m 225 #[.val (.int p1), .val (.int p2), .val (.int p3), .val (.int p4), .val (.int cd1), .val (.int ch1), .val (.int ch2), .val (.int cd2), .val (.int ch3), .val (.int ch4), .val (.int cd3), .val (.int ch5), .val (.int ch6), .val (.int cd4), .val (.int ch7), .val (.int ch8), .val vr_1, .val vr_2, .val vr_3, .val vr_4, .val (.ref b5), .val (.int (bI (mt (mkO cd1 ch1 ch2) (mkO cd2 ch3 ch4) (mkO cd3 ch5 ch6) (mkO cd4 ch7 ch8)))), .val (.int (1 : Int32)), .unset, .unset] [(.int ch3), (.int cd2)])) (fun _ k => XS.iload X12.here hx rfl (hb hby at_223) rfl k) ?_
        refine GlW.pre (B := T12.setTop (mkF m 227 #[.val (.int p1), .val (.int p2), .val (.int p3), .val (.int p4), .val (.int cd1), .val (.int ch1), .val (.int ch2), .val (.int cd2), .val (.int ch3), .val (.int ch4), .val (.int cd3), .val (.int ch5), .val (.int ch6), .val (.int cd4), .val (.int ch7), .val (.int ch8), .val vr_1, .val vr_2, .val vr_3, .val vr_4, .val (.ref b5), .val (.int (bI (mt (mkO cd1 ch1 ch2) (mkO cd2 ch3 ch4) (mkO cd3 ch5 ch6) (mkO cd4 ch7 ch8)))), .val (.int (1 : Int32)), .unset, .unset] [(.int ch4), (.int ch3), (.int cd2)])) (fun _ k => XS.iload X12.here hx rfl (hb hby at_225) rfl k) ?_
        refine GlW.pre (B := T12.setTop (mkF m 229 #[.val (.int p1), .val (.int p2), .val (.int p3), .val (.int p4), .val (.int cd1), .val (.int ch1), .val (.int ch2), .val (.int cd2), .val (.int ch3), .val (.int ch4), .val (.int cd3), .val (.int ch5), .val (.int ch6), .val (.int cd4), .val (.int ch7), .val (.int ch8), .val vr_1, .val vr_2, .val vr_3, .val vr_4, .val (.ref b5), .val (.int (bI (mt (mkO cd1 ch1 ch2) (mkO cd2 ch3 ch4) (mkO cd3 ch5 ch6) (mkO cd4 ch7 ch8)))), .val (.int (1 : Int32)), .unset, .unset] [(.int cd4), (.int ch4), (.int ch3), (.int cd2)])) (fun _ k => XS.iload X12.here hx rfl (hb hby at_227) rfl k) ?_
        refine GlW.pre (B := T12.setTop (mkF m 231 #[.val (.int p1), .val (.int p2), .val (.int p3), .val (.int p4), .val (.int cd1), .val (.int ch1), .val (.int ch2), .val (.int cd2), .val (.int ch3), .val (.int ch4), .val (.int cd3), .val (.int ch5), .val (.int ch6), .val (.int cd4), .val (.int ch7), .val (.int ch8), .val vr_1, .val vr_2, .val vr_3, .val vr_4, .val (.ref b5), .val (.int (bI (mt (mkO cd1 ch1 ch2) (mkO cd2 ch3 ch4) (mkO cd3 ch5 ch6) (mkO cd4 ch7 ch8)))), .val (.int (1 : Int32)), .unset, .unset] [(.int ch7), (.int cd4), (.int ch4), (.int ch3), (.int cd2)])) (fun _ k => XS.iload X12.here hx rfl (hb hby at_229) rfl k) ?_
        refine GlW.pre (B := T12.setTop (mkF m 233 #[.val (.int p1), .val (.int p2), .val (.int p3), .val (.int p4), .val (.int cd1), .val (.int ch1), .val (.int ch2), .val (.int cd2), .val (.int ch3), .val (.int ch4), .val (.int cd3), .val (.int ch5), .val (.int ch6), .val (.int cd4), .val (.int ch7), .val (.int ch8), .val vr_1, .val vr_2, .val vr_3, .val vr_4, .val (.ref b5), .val (.int (bI (mt (mkO cd1 ch1 ch2) (mkO cd2 ch3 ch4) (mkO cd3 ch5 ch6) (mkO cd4 ch7 ch8)))), .val (.int (1 : Int32)), .unset, .unset] [(.int ch8), (.int ch7), (.int cd4), (.int ch4), (.int ch3), (.int cd2)])) (fun _ k => XS.iload X12.here hx rfl (hb hby at_231) rfl k) ?_
        obtain ⟨rv15, _, ⟨T15, L15, k15, n15⟩, -, X15, ⟨Lc15, hQ15, l15, y15, z15⟩, st15⟩ := Jvm.LawKit.callS X12 hx (y := (⟨"com/example/tranquility/tranquility/NameTestMatchesPinLaw", "same", "(ICCICC)Z"⟩ : MethodName)) ho4 (mvT hZ4 (hw _ (List.mem_of_getElem? (i := 68) rfl))) (mvT hZ4 (hw _ (List.mem_of_getElem? (i := 69) rfl))) (mvT hZ4 (hw _ (List.mem_of_getElem? (i := 2) rfl))) (mvT hZ4 (hw _ (List.mem_of_getElem? (i := 70) rfl))) (by decide) (backOf (W := 0) (sme l Z a0 hw [] cd2 ch3 ch4 cd4 ch7 ch8 T6.heap n0 Z0 ) hZ4 (hw _ (List.mem_of_getElem? (i := 70) rfl)) (hw _ (List.mem_of_getElem? (i := 2) rfl)) (by decide) (by decide)) (g := (mkF m 233 #[.val (.int p1), .val (.int p2), .val (.int p3), .val (.int p4), .val (.int cd1), .val (.int ch1), .val (.int ch2), .val (.int cd2), .val (.int ch3), .val (.int ch4), .val (.int cd3), .val (.int ch5), .val (.int ch6), .val (.int cd4), .val (.int ch7), .val (.int ch8), .val vr_1, .val vr_2, .val vr_3, .val vr_4, .val (.ref b5), .val (.int (bI (mt (mkO cd1 ch1 ch2) (mkO cd2 ch3 ch4) (mkO cd3 ch5 ch6) (mkO cd4 ch7 ch8)))), .val (.int (1 : Int32)), .unset, .unset] [(.int ch8), (.int ch7), (.int cd4), (.int ch4), (.int ch3), (.int cd2)])) rfl (by rw [hml]; rfl) (argsL := [(.int cd2), (.int ch3), (.int ch4), (.int cd4), (.int ch7), (.int ch8)]) (rest := []) (lenOf pd_7 rfl) rfl (by show 2 * 0 + _ ≤ _; exact Nat.le_of_eq rfl) (hb hby at_233) (fun _ _ => ⟨rfl, e12, (by decide : 25 + 0 ≤ _), (by decide : 50 + 0 ≤ _)⟩)
        dsimp only [Pt.U, Pt.locs, Pt.cells, Pt.slots] at X15 l15 y15 z15 st15 hQ15
        subst l15 y15 z15
        obtain ⟨rfl, N15q, e15⟩ := hQ15
        have N15 := Fr.app N12 N15q
        refine GlW.pre (B := T15.setTop (mkF m 236 #[.val (.int p1), .val (.int p2), .val (.int p3), .val (.int p4), .val (.int cd1), .val (.int ch1), .val (.int ch2), .val (.int cd2), .val (.int ch3), .val (.int ch4), .val (.int cd3), .val (.int ch5), .val (.int ch6), .val (.int cd4), .val (.int ch7), .val (.int ch8), .val vr_1, .val vr_2, .val vr_3, .val vr_4, .val (.ref b5), .val (.int (bI (mt (mkO cd1 ch1 ch2) (mkO cd2 ch3 ch4) (mkO cd3 ch5 ch6) (mkO cd4 ch7 ch8)))), .val (.int (1 : Int32)), .unset, .unset] [(.int (bI (sm cd2 ch3 ch4 cd4 ch7 ch8)))])) (fun _ k => st15 _ k) ?_
        rcases Bool.eq_false_or_eq_true (sm cd2 ch3 ch4 cd4 ch7 ch8) with hc236_16 | hc236_16
        · refine GlW.pre (B := T15.setTop (mkF m 239 #[.val (.int p1), .val (.int p2), .val (.int p3), .val (.int p4), .val (.int cd1), .val (.int ch1), .val (.int ch2), .val (.int cd2), .val (.int ch3), .val (.int ch4), .val (.int cd3), .val (.int ch5), .val (.int ch6), .val (.int cd4), .val (.int ch7), .val (.int ch8), .val vr_1, .val vr_2, .val vr_3, .val vr_4, .val (.ref b5), .val (.int (bI (mt (mkO cd1 ch1 ch2) (mkO cd2 ch3 ch4) (mkO cd3 ch5 ch6) (mkO cd4 ch7 ch8)))), .val (.int (1 : Int32)), .unset, .unset] [])) (fun _ k => XS.ifNo X15.here hx rfl (hb hby at_236) rfl ((if0 _ _).trans (feq (bI_t hc236_16)).1) k) ?_
          refine GlW.pre (B := T15.setTop (mkF m 240 #[.val (.int p1), .val (.int p2), .val (.int p3), .val (.int p4), .val (.int cd1), .val (.int ch1), .val (.int ch2), .val (.int cd2), .val (.int ch3), .val (.int ch4), .val (.int cd3), .val (.int ch5), .val (.int ch6), .val (.int cd4), .val (.int ch7), .val (.int ch8), .val vr_1, .val vr_2, .val vr_3, .val vr_4, .val (.ref b5), .val (.int (bI (mt (mkO cd1 ch1 ch2) (mkO cd2 ch3 ch4) (mkO cd3 ch5 ch6) (mkO cd4 ch7 ch8)))), .val (.int (1 : Int32)), .unset, .unset] [(.int (1 : Int32))])) (fun _ k => XS.iconst X15.here hx rfl (hb hby at_239) k) ?_
          refine GlW.pre (B := T15.setTop (mkF m 244 #[.val (.int p1), .val (.int p2), .val (.int p3), .val (.int p4), .val (.int cd1), .val (.int ch1), .val (.int ch2), .val (.int cd2), .val (.int ch3), .val (.int ch4), .val (.int cd3), .val (.int ch5), .val (.int ch6), .val (.int cd4), .val (.int ch7), .val (.int ch8), .val vr_1, .val vr_2, .val vr_3, .val vr_4, .val (.ref b5), .val (.int (bI (mt (mkO cd1 ch1 ch2) (mkO cd2 ch3 ch4) (mkO cd3 ch5 ch6) (mkO cd4 ch7 ch8)))), .val (.int (1 : Int32)), .unset, .unset] [(.int (1 : Int32))])) (fun _ k => XS.goto X15.here hx rfl (pc0 := 240) (pc' := 244) rfl (hb hby at_240) (by decide) (by decide) k) ?_
          refine GlW.pre (B := T15.setTop (mkF m 246 #[.val (.int p1), .val (.int p2), .val (.int p3), .val (.int p4), .val (.int cd1), .val (.int ch1), .val (.int ch2), .val (.int cd2), .val (.int ch3), .val (.int ch4), .val (.int cd3), .val (.int ch5), .val (.int ch6), .val (.int cd4), .val (.int ch7), .val (.int ch8), .val vr_1, .val vr_2, .val vr_3, .val vr_4, .val (.ref b5), .val (.int (bI (mt (mkO cd1 ch1 ch2) (mkO cd2 ch3 ch4) (mkO cd3 ch5 ch6) (mkO cd4 ch7 ch8)))), .val (.int (1 : Int32)), .val (.int (1 : Int32)), .unset] [])) (fun _ k => XS.istore X15.here hx rfl (hb hby at_244) rfl (l' := #[.val (.int p1), .val (.int p2), .val (.int p3), .val (.int p4), .val (.int cd1), .val (.int ch1), .val (.int ch2), .val (.int cd2), .val (.int ch3), .val (.int ch4), .val (.int cd3), .val (.int ch5), .val (.int ch6), .val (.int cd4), .val (.int ch7), .val (.int ch8), .val vr_1, .val vr_2, .val vr_3, .val vr_4, .val (.ref b5), .val (.int (bI (mt (mkO cd1 ch1 ch2) (mkO cd2 ch3 ch4) (mkO cd3 ch5 ch6) (mkO cd4 ch7 ch8)))), .val (.int (1 : Int32)), .val (.int (1 : Int32)), .unset]) rfl k) ?_
          refine GlW.pre (B := T15.setTop (mkF m 248 #[.val (.int p1), .val (.int p2), .val (.int p3), .val (.int p4), .val (.int cd1), .val (.int ch1), .val (.int ch2), .val (.int cd2), .val (.int ch3), .val (.int ch4), .val (.int cd3), .val (.int ch5), .val (.int ch6), .val (.int cd4), .val (.int ch7), .val (.int ch8), .val vr_1, .val vr_2, .val vr_3, .val vr_4, .val (.ref b5), .val (.int (bI (mt (mkO cd1 ch1 ch2) (mkO cd2 ch3 ch4) (mkO cd3 ch5 ch6) (mkO cd4 ch7 ch8)))), .val (.int (1 : Int32)), .val (.int (1 : Int32)), .unset] [(.int (1 : Int32))])) (fun _ k => XS.iload X15.here hx rfl (hb hby at_246) rfl k) ?_
          refine GlW.pre (B := T15.setTop (mkF m 251 #[.val (.int p1), .val (.int p2), .val (.int p3), .val (.int p4), .val (.int cd1), .val (.int ch1), .val (.int ch2), .val (.int cd2), .val (.int ch3), .val (.int ch4), .val (.int cd3), .val (.int ch5), .val (.int ch6), .val (.int cd4), .val (.int ch7), .val (.int ch8), .val vr_1, .val vr_2, .val vr_3, .val vr_4, .val (.ref b5), .val (.int (bI (mt (mkO cd1 ch1 ch2) (mkO cd2 ch3 ch4) (mkO cd3 ch5 ch6) (mkO cd4 ch7 ch8)))), .val (.int (1 : Int32)), .val (.int (1 : Int32)), .unset] [])) (fun _ k => XS.ifNo X15.here hx rfl (hb hby at_248) rfl ((if0 _ _).trans (feq (by decide : ¬ ((1 : Int32) = (0 : Int32)))).1) k) ?_
          refine GlW.pre (B := T15.setTop (mkF m 253 #[.val (.int p1), .val (.int p2), .val (.int p3), .val (.int p4), .val (.int cd1), .val (.int ch1), .val (.int ch2), .val (.int cd2), .val (.int ch3), .val (.int ch4), .val (.int cd3), .val (.int ch5), .val (.int ch6), .val (.int cd4), .val (.int ch7), .val (.int ch8), .val vr_1, .val vr_2, .val vr_3, .val vr_4, .val (.ref b5), .val (.int (bI (mt (mkO cd1 ch1 ch2) (mkO cd2 ch3 ch4) (mkO cd3 ch5 ch6) (mkO cd4 ch7 ch8)))), .val (.int (1 : Int32)), .val (.int (1 : Int32)), .unset] [(.int (1 : Int32))])) (fun _ k => XS.iload X15.here hx rfl (hb hby at_251) rfl k) ?_
          refine GlW.pre (B := T15.setTop (mkF m 256 #[.val (.int p1), .val (.int p2), .val (.int p3), .val (.int p4), .val (.int cd1), .val (.int ch1), .val (.int ch2), .val (.int cd2), .val (.int ch3), .val (.int ch4), .val (.int cd3), .val (.int ch5), .val (.int ch6), .val (.int cd4), .val (.int ch7), .val (.int ch8), .val vr_1, .val vr_2, .val vr_3, .val vr_4, .val (.ref b5), .val (.int (bI (mt (mkO cd1 ch1 ch2) (mkO cd2 ch3 ch4) (mkO cd3 ch5 ch6) (mkO cd4 ch7 ch8)))), .val (.int (1 : Int32)), .val (.int (1 : Int32)), .unset] [])) (fun _ k => XS.ifNo X15.here hx rfl (hb hby at_253) rfl ((if0 _ _).trans (feq (by decide : ¬ ((1 : Int32) = (0 : Int32)))).1) k) ?_
          refine GlW.pre (B := T15.setTop (mkF m 257 #[.val (.int p1), .val (.int p2), .val (.int p3), .val (.int p4), .val (.int cd1), .val (.int ch1), .val (.int ch2), .val (.int cd2), .val (.int ch3), .val (.int ch4), .val (.int cd3), .val (.int ch5), .val (.int ch6), .val (.int cd4), .val (.int ch7), .val (.int ch8), .val vr_1, .val vr_2, .val vr_3, .val vr_4, .val (.ref b5), .val (.int (bI (mt (mkO cd1 ch1 ch2) (mkO cd2 ch3 ch4) (mkO cd3 ch5 ch6) (mkO cd4 ch7 ch8)))), .val (.int (1 : Int32)), .val (.int (1 : Int32)), .unset] [(.int (1 : Int32))])) (fun _ k => XS.iconst X15.here hx rfl (hb hby at_256) k) ?_
          refine GlW.pre (B := T15.setTop (mkF m 261 #[.val (.int p1), .val (.int p2), .val (.int p3), .val (.int p4), .val (.int cd1), .val (.int ch1), .val (.int ch2), .val (.int cd2), .val (.int ch3), .val (.int ch4), .val (.int cd3), .val (.int ch5), .val (.int ch6), .val (.int cd4), .val (.int ch7), .val (.int ch8), .val vr_1, .val vr_2, .val vr_3, .val vr_4, .val (.ref b5), .val (.int (bI (mt (mkO cd1 ch1 ch2) (mkO cd2 ch3 ch4) (mkO cd3 ch5 ch6) (mkO cd4 ch7 ch8)))), .val (.int (1 : Int32)), .val (.int (1 : Int32)), .unset] [(.int (1 : Int32))])) (fun _ k => XS.goto X15.here hx rfl (pc0 := 257) (pc' := 261) rfl (hb hby at_257) (by decide) (by decide) k) ?_
          refine GlW.pre (B := T15.setTop (mkF m 263 #[.val (.int p1), .val (.int p2), .val (.int p3), .val (.int p4), .val (.int cd1), .val (.int ch1), .val (.int ch2), .val (.int cd2), .val (.int ch3), .val (.int ch4), .val (.int cd3), .val (.int ch5), .val (.int ch6), .val (.int cd4), .val (.int ch7), .val (.int ch8), .val vr_1, .val vr_2, .val vr_3, .val vr_4, .val (.ref b5), .val (.int (bI (mt (mkO cd1 ch1 ch2) (mkO cd2 ch3 ch4) (mkO cd3 ch5 ch6) (mkO cd4 ch7 ch8)))), .val (.int (1 : Int32)), .val (.int (1 : Int32)), .val (.int (1 : Int32))] [])) (fun _ k => XS.istore X15.here hx rfl (hb hby at_261) rfl (l' := #[.val (.int p1), .val (.int p2), .val (.int p3), .val (.int p4), .val (.int cd1), .val (.int ch1), .val (.int ch2), .val (.int cd2), .val (.int ch3), .val (.int ch4), .val (.int cd3), .val (.int ch5), .val (.int ch6), .val (.int cd4), .val (.int ch7), .val (.int ch8), .val vr_1, .val vr_2, .val vr_3, .val vr_4, .val (.ref b5), .val (.int (bI (mt (mkO cd1 ch1 ch2) (mkO cd2 ch3 ch4) (mkO cd3 ch5 ch6) (mkO cd4 ch7 ch8)))), .val (.int (1 : Int32)), .val (.int (1 : Int32)), .val (.int (1 : Int32))]) rfl k) ?_
          refine GlW.pre (B := T15.setTop (mkF m 265 #[.val (.int p1), .val (.int p2), .val (.int p3), .val (.int p4), .val (.int cd1), .val (.int ch1), .val (.int ch2), .val (.int cd2), .val (.int ch3), .val (.int ch4), .val (.int cd3), .val (.int ch5), .val (.int ch6), .val (.int cd4), .val (.int ch7), .val (.int ch8), .val vr_1, .val vr_2, .val vr_3, .val vr_4, .val (.ref b5), .val (.int (bI (mt (mkO cd1 ch1 ch2) (mkO cd2 ch3 ch4) (mkO cd3 ch5 ch6) (mkO cd4 ch7 ch8)))), .val (.int (1 : Int32)), .val (.int (1 : Int32)), .val (.int (1 : Int32))] [(.int (bI (mt (mkO cd1 ch1 ch2) (mkO cd2 ch3 ch4) (mkO cd3 ch5 ch6) (mkO cd4 ch7 ch8))))])) (fun _ k => XS.iload X15.here hx rfl (hb hby at_263) rfl k) ?_
          refine GlW.pre (B := T15.setTop (mkF m 267 #[.val (.int p1), .val (.int p2), .val (.int p3), .val (.int p4), .val (.int cd1), .val (.int ch1), .val (.int ch2), .val (.int cd2), .val (.int ch3), .val (.int ch4), .val (.int cd3), .val (.int ch5), .val (.int ch6), .val (.int cd4), .val (.int ch7), .val (.int ch8), .val vr_1, .val vr_2, .val vr_3, .val vr_4, .val (.ref b5), .val (.int (bI (mt (mkO cd1 ch1 ch2) (mkO cd2 ch3 ch4) (mkO cd3 ch5 ch6) (mkO cd4 ch7 ch8)))), .val (.int (1 : Int32)), .val (.int (1 : Int32)), .val (.int (1 : Int32))] [(.int (1 : Int32)), (.int (bI (mt (mkO cd1 ch1 ch2) (mkO cd2 ch3 ch4) (mkO cd3 ch5 ch6) (mkO cd4 ch7 ch8))))])) (fun _ k => XS.iload X15.here hx rfl (hb hby at_265) rfl k) ?_
          refine GlW.pre (B := T15.setTop (mkF m 270 #[.val (.int p1), .val (.int p2), .val (.int p3), .val (.int p4), .val (.int cd1), .val (.int ch1), .val (.int ch2), .val (.int cd2), .val (.int ch3), .val (.int ch4), .val (.int cd3), .val (.int ch5), .val (.int ch6), .val (.int cd4), .val (.int ch7), .val (.int ch8), .val vr_1, .val vr_2, .val vr_3, .val vr_4, .val (.ref b5), .val (.int (bI (mt (mkO cd1 ch1 ch2) (mkO cd2 ch3 ch4) (mkO cd3 ch5 ch6) (mkO cd4 ch7 ch8)))), .val (.int (1 : Int32)), .val (.int (1 : Int32)), .val (.int (1 : Int32))] [])) (fun _ k => XS.icmpNo X15.here hx rfl (hb hby at_267) rfl (teq (by rw [mt2 r_cd1 r_cd3 r_cd2 r_cd4]; simp [bI, hc187_8, hc205_13, hc218_14, hc236_16] : (bI (mt (mkO cd1 ch1 ch2) (mkO cd2 ch3 ch4) (mkO cd3 ch5 ch6) (mkO cd4 ch7 ch8))) = (1 : Int32))).2 k) ?_
          refine GlW.pre (B := T15.setTop (mkF m 271 #[.val (.int p1), .val (.int p2), .val (.int p3), .val (.int p4), .val (.int cd1), .val (.int ch1), .val (.int ch2), .val (.int cd2), .val (.int ch3), .val (.int ch4), .val (.int cd3), .val (.int ch5), .val (.int ch6), .val (.int cd4), .val (.int ch7), .val (.int ch8), .val vr_1, .val vr_2, .val vr_3, .val vr_4, .val (.ref b5), .val (.int (bI (mt (mkO cd1 ch1 ch2) (mkO cd2 ch3 ch4) (mkO cd3 ch5 ch6) (mkO cd4 ch7 ch8)))), .val (.int (1 : Int32)), .val (.int (1 : Int32)), .val (.int (1 : Int32))] [(.int (1 : Int32))])) (fun _ k => XS.iconst X15.here hx rfl (hb hby at_270) k) ?_
          refine GlW.pre (B := T15.setTop (mkF m 275 #[.val (.int p1), .val (.int p2), .val (.int p3), .val (.int p4), .val (.int cd1), .val (.int ch1), .val (.int ch2), .val (.int cd2), .val (.int ch3), .val (.int ch4), .val (.int cd3), .val (.int ch5), .val (.int ch6), .val (.int cd4), .val (.int ch7), .val (.int ch8), .val vr_1, .val vr_2, .val vr_3, .val vr_4, .val (.ref b5), .val (.int (bI (mt (mkO cd1 ch1 ch2) (mkO cd2 ch3 ch4) (mkO cd3 ch5 ch6) (mkO cd4 ch7 ch8)))), .val (.int (1 : Int32)), .val (.int (1 : Int32)), .val (.int (1 : Int32))] [(.int (1 : Int32))])) (fun _ k => XS.goto X15.here hx rfl (pc0 := 271) (pc' := 275) rfl (hb hby at_271) (by decide) (by decide) k) ?_
          refine GlW.out X15 hsh e15 hS4 hk6 hZ4 hEL CR (v := some (.int (1 : Int32))) (fun h => by rw [hret] at h; cases h) hlk (fun fs hr => retN X15 hx (t := .boolean) hret (by simp) (hb hby at_275) hr) ?_ (by decide) (by decide)
          show Q_rm0 Z _ _ _ _ _ h0 n0 _ T15.heap _
          rw [e15]
          exact ⟨rfl, N15⟩
        · refine GlW.pre (B := T15.setTop (mkF m 243 #[.val (.int p1), .val (.int p2), .val (.int p3), .val (.int p4), .val (.int cd1), .val (.int ch1), .val (.int ch2), .val (.int cd2), .val (.int ch3), .val (.int ch4), .val (.int cd3), .val (.int ch5), .val (.int ch6), .val (.int cd4), .val (.int ch7), .val (.int ch8), .val vr_1, .val vr_2, .val vr_3, .val vr_4, .val (.ref b5), .val (.int (bI (mt (mkO cd1 ch1 ch2) (mkO cd2 ch3 ch4) (mkO cd3 ch5 ch6) (mkO cd4 ch7 ch8)))), .val (.int (1 : Int32)), .unset, .unset] [])) (fun _ k => XS.ifYes X15.here hx rfl (pc0 := 236) (pc' := 243) rfl (hb hby at_236) rfl ((if0 _ _).trans (teq (bI_f hc236_16)).1) (by decide) (by decide) k) ?_
          refine GlW.pre (B := T15.setTop (mkF m 244 #[.val (.int p1), .val (.int p2), .val (.int p3), .val (.int p4), .val (.int cd1), .val (.int ch1), .val (.int ch2), .val (.int cd2), .val (.int ch3), .val (.int ch4), .val (.int cd3), .val (.int ch5), .val (.int ch6), .val (.int cd4), .val (.int ch7), .val (.int ch8), .val vr_1, .val vr_2, .val vr_3, .val vr_4, .val (.ref b5), .val (.int (bI (mt (mkO cd1 ch1 ch2) (mkO cd2 ch3 ch4) (mkO cd3 ch5 ch6) (mkO cd4 ch7 ch8)))), .val (.int (1 : Int32)), .unset, .unset] [(.int (0 : Int32))])) (fun _ k => XS.iconst X15.here hx rfl (hb hby at_243) k) ?_
          refine GlW.pre (B := T15.setTop (mkF m 246 #[.val (.int p1), .val (.int p2), .val (.int p3), .val (.int p4), .val (.int cd1), .val (.int ch1), .val (.int ch2), .val (.int cd2), .val (.int ch3), .val (.int ch4), .val (.int cd3), .val (.int ch5), .val (.int ch6), .val (.int cd4), .val (.int ch7), .val (.int ch8), .val vr_1, .val vr_2, .val vr_3, .val vr_4, .val (.ref b5), .val (.int (bI (mt (mkO cd1 ch1 ch2) (mkO cd2 ch3 ch4) (mkO cd3 ch5 ch6) (mkO cd4 ch7 ch8)))), .val (.int (1 : Int32)), .val (.int (0 : Int32)), .unset] [])) (fun _ k => XS.istore X15.here hx rfl (hb hby at_244) rfl (l' := #[.val (.int p1), .val (.int p2), .val (.int p3), .val (.int p4), .val (.int cd1), .val (.int ch1), .val (.int ch2), .val (.int cd2), .val (.int ch3), .val (.int ch4), .val (.int cd3), .val (.int ch5), .val (.int ch6), .val (.int cd4), .val (.int ch7), .val (.int ch8), .val vr_1, .val vr_2, .val vr_3, .val vr_4, .val (.ref b5), .val (.int (bI (mt (mkO cd1 ch1 ch2) (mkO cd2 ch3 ch4) (mkO cd3 ch5 ch6) (mkO cd4 ch7 ch8)))), .val (.int (1 : Int32)), .val (.int (0 : Int32)), .unset]) rfl k) ?_
          refine GlW.pre (B := T15.setTop (mkF m 248 #[.val (.int p1), .val (.int p2), .val (.int p3), .val (.int p4), .val (.int cd1), .val (.int ch1), .val (.int ch2), .val (.int cd2), .val (.int ch3), .val (.int ch4), .val (.int cd3), .val (.int ch5), .val (.int ch6), .val (.int cd4), .val (.int ch7), .val (.int ch8), .val vr_1, .val vr_2, .val vr_3, .val vr_4, .val (.ref b5), .val (.int (bI (mt (mkO cd1 ch1 ch2) (mkO cd2 ch3 ch4) (mkO cd3 ch5 ch6) (mkO cd4 ch7 ch8)))), .val (.int (1 : Int32)), .val (.int (0 : Int32)), .unset] [(.int (1 : Int32))])) (fun _ k => XS.iload X15.here hx rfl (hb hby at_246) rfl k) ?_
          refine GlW.pre (B := T15.setTop (mkF m 251 #[.val (.int p1), .val (.int p2), .val (.int p3), .val (.int p4), .val (.int cd1), .val (.int ch1), .val (.int ch2), .val (.int cd2), .val (.int ch3), .val (.int ch4), .val (.int cd3), .val (.int ch5), .val (.int ch6), .val (.int cd4), .val (.int ch7), .val (.int ch8), .val vr_1, .val vr_2, .val vr_3, .val vr_4, .val (.ref b5), .val (.int (bI (mt (mkO cd1 ch1 ch2) (mkO cd2 ch3 ch4) (mkO cd3 ch5 ch6) (mkO cd4 ch7 ch8)))), .val (.int (1 : Int32)), .val (.int (0 : Int32)), .unset] [])) (fun _ k => XS.ifNo X15.here hx rfl (hb hby at_248) rfl ((if0 _ _).trans (feq (by decide : ¬ ((1 : Int32) = (0 : Int32)))).1) k) ?_
          refine GlW.pre (B := T15.setTop (mkF m 253 #[.val (.int p1), .val (.int p2), .val (.int p3), .val (.int p4), .val (.int cd1), .val (.int ch1), .val (.int ch2), .val (.int cd2), .val (.int ch3), .val (.int ch4), .val (.int cd3), .val (.int ch5), .val (.int ch6), .val (.int cd4), .val (.int ch7), .val (.int ch8), .val vr_1, .val vr_2, .val vr_3, .val vr_4, .val (.ref b5), .val (.int (bI (mt (mkO cd1 ch1 ch2) (mkO cd2 ch3 ch4) (mkO cd3 ch5 ch6) (mkO cd4 ch7 ch8)))), .val (.int (1 : Int32)), .val (.int (0 : Int32)), .unset] [(.int (0 : Int32))])) (fun _ k => XS.iload X15.here hx rfl (hb hby at_251) rfl k) ?_
          refine GlW.pre (B := T15.setTop (mkF m 260 #[.val (.int p1), .val (.int p2), .val (.int p3), .val (.int p4), .val (.int cd1), .val (.int ch1), .val (.int ch2), .val (.int cd2), .val (.int ch3), .val (.int ch4), .val (.int cd3), .val (.int ch5), .val (.int ch6), .val (.int cd4), .val (.int ch7), .val (.int ch8), .val vr_1, .val vr_2, .val vr_3, .val vr_4, .val (.ref b5), .val (.int (bI (mt (mkO cd1 ch1 ch2) (mkO cd2 ch3 ch4) (mkO cd3 ch5 ch6) (mkO cd4 ch7 ch8)))), .val (.int (1 : Int32)), .val (.int (0 : Int32)), .unset] [])) (fun _ k => XS.ifYes X15.here hx rfl (pc0 := 253) (pc' := 260) rfl (hb hby at_253) rfl ((if0 _ _).trans (teq (by decide : (0 : Int32) = (0 : Int32))).1) (by decide) (by decide) k) ?_
          refine GlW.pre (B := T15.setTop (mkF m 261 #[.val (.int p1), .val (.int p2), .val (.int p3), .val (.int p4), .val (.int cd1), .val (.int ch1), .val (.int ch2), .val (.int cd2), .val (.int ch3), .val (.int ch4), .val (.int cd3), .val (.int ch5), .val (.int ch6), .val (.int cd4), .val (.int ch7), .val (.int ch8), .val vr_1, .val vr_2, .val vr_3, .val vr_4, .val (.ref b5), .val (.int (bI (mt (mkO cd1 ch1 ch2) (mkO cd2 ch3 ch4) (mkO cd3 ch5 ch6) (mkO cd4 ch7 ch8)))), .val (.int (1 : Int32)), .val (.int (0 : Int32)), .unset] [(.int (0 : Int32))])) (fun _ k => XS.iconst X15.here hx rfl (hb hby at_260) k) ?_
          refine GlW.pre (B := T15.setTop (mkF m 263 #[.val (.int p1), .val (.int p2), .val (.int p3), .val (.int p4), .val (.int cd1), .val (.int ch1), .val (.int ch2), .val (.int cd2), .val (.int ch3), .val (.int ch4), .val (.int cd3), .val (.int ch5), .val (.int ch6), .val (.int cd4), .val (.int ch7), .val (.int ch8), .val vr_1, .val vr_2, .val vr_3, .val vr_4, .val (.ref b5), .val (.int (bI (mt (mkO cd1 ch1 ch2) (mkO cd2 ch3 ch4) (mkO cd3 ch5 ch6) (mkO cd4 ch7 ch8)))), .val (.int (1 : Int32)), .val (.int (0 : Int32)), .val (.int (0 : Int32))] [])) (fun _ k => XS.istore X15.here hx rfl (hb hby at_261) rfl (l' := #[.val (.int p1), .val (.int p2), .val (.int p3), .val (.int p4), .val (.int cd1), .val (.int ch1), .val (.int ch2), .val (.int cd2), .val (.int ch3), .val (.int ch4), .val (.int cd3), .val (.int ch5), .val (.int ch6), .val (.int cd4), .val (.int ch7), .val (.int ch8), .val vr_1, .val vr_2, .val vr_3, .val vr_4, .val (.ref b5), .val (.int (bI (mt (mkO cd1 ch1 ch2) (mkO cd2 ch3 ch4) (mkO cd3 ch5 ch6) (mkO cd4 ch7 ch8)))), .val (.int (1 : Int32)), .val (.int (0 : Int32)), .val (.int (0 : Int32))]) rfl k) ?_
          refine GlW.pre (B := T15.setTop (mkF m 265 #[.val (.int p1), .val (.int p2), .val (.int p3), .val (.int p4), .val (.int cd1), .val (.int ch1), .val (.int ch2), .val (.int cd2), .val (.int ch3), .val (.int ch4), .val (.int cd3), .val (.int ch5), .val (.int ch6), .val (.int cd4), .val (.int ch7), .val (.int ch8), .val vr_1, .val vr_2, .val vr_3, .val vr_4, .val (.ref b5), .val (.int (bI (mt (mkO cd1 ch1 ch2) (mkO cd2 ch3 ch4) (mkO cd3 ch5 ch6) (mkO cd4 ch7 ch8)))), .val (.int (1 : Int32)), .val (.int (0 : Int32)), .val (.int (0 : Int32))] [(.int (bI (mt (mkO cd1 ch1 ch2) (mkO cd2 ch3 ch4) (mkO cd3 ch5 ch6) (mkO cd4 ch7 ch8))))])) (fun _ k => XS.iload X15.here hx rfl (hb hby at_263) rfl k) ?_
          refine GlW.pre (B := T15.setTop (mkF m 267 #[.val (.int p1), .val (.int p2), .val (.int p3), .val (.int p4), .val (.int cd1), .val (.int ch1), .val (.int ch2), .val (.int cd2), .val (.int ch3), .val (.int ch4), .val (.int cd3), .val (.int ch5), .val (.int ch6), .val (.int cd4), .val (.int ch7), .val (.int ch8), .val vr_1, .val vr_2, .val vr_3, .val vr_4, .val (.ref b5), .val (.int (bI (mt (mkO cd1 ch1 ch2) (mkO cd2 ch3 ch4) (mkO cd3 ch5 ch6) (mkO cd4 ch7 ch8)))), .val (.int (1 : Int32)), .val (.int (0 : Int32)), .val (.int (0 : Int32))] [(.int (0 : Int32)), (.int (bI (mt (mkO cd1 ch1 ch2) (mkO cd2 ch3 ch4) (mkO cd3 ch5 ch6) (mkO cd4 ch7 ch8))))])) (fun _ k => XS.iload X15.here hx rfl (hb hby at_265) rfl k) ?_
          refine GlW.pre (B := T15.setTop (mkF m 270 #[.val (.int p1), .val (.int p2), .val (.int p3), .val (.int p4), .val (.int cd1), .val (.int ch1), .val (.int ch2), .val (.int cd2), .val (.int ch3), .val (.int ch4), .val (.int cd3), .val (.int ch5), .val (.int ch6), .val (.int cd4), .val (.int ch7), .val (.int ch8), .val vr_1, .val vr_2, .val vr_3, .val vr_4, .val (.ref b5), .val (.int (bI (mt (mkO cd1 ch1 ch2) (mkO cd2 ch3 ch4) (mkO cd3 ch5 ch6) (mkO cd4 ch7 ch8)))), .val (.int (1 : Int32)), .val (.int (0 : Int32)), .val (.int (0 : Int32))] [])) (fun _ k => XS.icmpNo X15.here hx rfl (hb hby at_267) rfl (teq (by rw [mt2 r_cd1 r_cd3 r_cd2 r_cd4]; simp [bI, hc187_8, hc205_13, hc218_14, hc236_16] : (bI (mt (mkO cd1 ch1 ch2) (mkO cd2 ch3 ch4) (mkO cd3 ch5 ch6) (mkO cd4 ch7 ch8))) = (0 : Int32))).2 k) ?_
          refine GlW.pre (B := T15.setTop (mkF m 271 #[.val (.int p1), .val (.int p2), .val (.int p3), .val (.int p4), .val (.int cd1), .val (.int ch1), .val (.int ch2), .val (.int cd2), .val (.int ch3), .val (.int ch4), .val (.int cd3), .val (.int ch5), .val (.int ch6), .val (.int cd4), .val (.int ch7), .val (.int ch8), .val vr_1, .val vr_2, .val vr_3, .val vr_4, .val (.ref b5), .val (.int (bI (mt (mkO cd1 ch1 ch2) (mkO cd2 ch3 ch4) (mkO cd3 ch5 ch6) (mkO cd4 ch7 ch8)))), .val (.int (1 : Int32)), .val (.int (0 : Int32)), .val (.int (0 : Int32))] [(.int (1 : Int32))])) (fun _ k => XS.iconst X15.here hx rfl (hb hby at_270) k) ?_
          refine GlW.pre (B := T15.setTop (mkF m 275 #[.val (.int p1), .val (.int p2), .val (.int p3), .val (.int p4), .val (.int cd1), .val (.int ch1), .val (.int ch2), .val (.int cd2), .val (.int ch3), .val (.int ch4), .val (.int cd3), .val (.int ch5), .val (.int ch6), .val (.int cd4), .val (.int ch7), .val (.int ch8), .val vr_1, .val vr_2, .val vr_3, .val vr_4, .val (.ref b5), .val (.int (bI (mt (mkO cd1 ch1 ch2) (mkO cd2 ch3 ch4) (mkO cd3 ch5 ch6) (mkO cd4 ch7 ch8)))), .val (.int (1 : Int32)), .val (.int (0 : Int32)), .val (.int (0 : Int32))] [(.int (1 : Int32))])) (fun _ k => XS.goto X15.here hx rfl (pc0 := 271) (pc' := 275) rfl (hb hby at_271) (by decide) (by decide) k) ?_
          refine GlW.out X15 hsh e15 hS4 hk6 hZ4 hEL CR (v := some (.int (1 : Int32))) (fun h => by rw [hret] at h; cases h) hlk (fun fs hr => retN X15 hx (t := .boolean) hret (by simp) (hb hby at_275) hr) ?_ (by decide) (by decide)
          show Q_rm0 Z _ _ _ _ _ h0 n0 _ T15.heap _
          rw [e15]
          exact ⟨rfl, N15⟩
    · refine GlW.pre (B := T12.setTop (mkF m 212 #[.val (.int p1), .val (.int p2), .val (.int p3), .val (.int p4), .val (.int cd1), .val (.int ch1), .val (.int ch2), .val (.int cd2), .val (.int ch3), .val (.int ch4), .val (.int cd3), .val (.int ch5), .val (.int ch6), .val (.int cd4), .val (.int ch7), .val (.int ch8), .val vr_1, .val vr_2, .val vr_3, .val vr_4, .val (.ref b5), .val (.int (bI (mt (mkO cd1 ch1 ch2) (mkO cd2 ch3 ch4) (mkO cd3 ch5 ch6) (mkO cd4 ch7 ch8)))), .unset, .unset, .unset] [])) (fun _ k => XS.ifYes X12.here hx rfl (pc0 := 205) (pc' := 212) rfl (hb hby at_205) rfl ((if0 _ _).trans (teq (bI_f hc205_13)).1) (by decide) (by decide) k) ?_
      refine GlW.pre (B := T12.setTop (mkF m 213 #[.val (.int p1), .val (.int p2), .val (.int p3), .val (.int p4), .val (.int cd1), .val (.int ch1), .val (.int ch2), .val (.int cd2), .val (.int ch3), .val (.int ch4), .val (.int cd3), .val (.int ch5), .val (.int ch6), .val (.int cd4), .val (.int ch7), .val (.int ch8), .val vr_1, .val vr_2, .val vr_3, .val vr_4, .val (.ref b5), .val (.int (bI (mt (mkO cd1 ch1 ch2) (mkO cd2 ch3 ch4) (mkO cd3 ch5 ch6) (mkO cd4 ch7 ch8)))), .unset, .unset, .unset] [(.int (0 : Int32))])) (fun _ k => XS.iconst X12.here hx rfl (hb hby at_212) k) ?_
      refine GlW.pre (B := T12.setTop (mkF m 215 #[.val (.int p1), .val (.int p2), .val (.int p3), .val (.int p4), .val (.int cd1), .val (.int ch1), .val (.int ch2), .val (.int cd2), .val (.int ch3), .val (.int ch4), .val (.int cd3), .val (.int ch5), .val (.int ch6), .val (.int cd4), .val (.int ch7), .val (.int ch8), .val vr_1, .val vr_2, .val vr_3, .val vr_4, .val (.ref b5), .val (.int (bI (mt (mkO cd1 ch1 ch2) (mkO cd2 ch3 ch4) (mkO cd3 ch5 ch6) (mkO cd4 ch7 ch8)))), .val (.int (0 : Int32)), .unset, .unset] [])) (fun _ k => XS.istore X12.here hx rfl (hb hby at_213) rfl (l' := #[.val (.int p1), .val (.int p2), .val (.int p3), .val (.int p4), .val (.int cd1), .val (.int ch1), .val (.int ch2), .val (.int cd2), .val (.int ch3), .val (.int ch4), .val (.int cd3), .val (.int ch5), .val (.int ch6), .val (.int cd4), .val (.int ch7), .val (.int ch8), .val vr_1, .val vr_2, .val vr_3, .val vr_4, .val (.ref b5), .val (.int (bI (mt (mkO cd1 ch1 ch2) (mkO cd2 ch3 ch4) (mkO cd3 ch5 ch6) (mkO cd4 ch7 ch8)))), .val (.int (0 : Int32)), .unset, .unset]) rfl k) ?_
      refine GlW.pre (B := T12.setTop (mkF m 217 #[.val (.int p1), .val (.int p2), .val (.int p3), .val (.int p4), .val (.int cd1), .val (.int ch1), .val (.int ch2), .val (.int cd2), .val (.int ch3), .val (.int ch4), .val (.int cd3), .val (.int ch5), .val (.int ch6), .val (.int cd4), .val (.int ch7), .val (.int ch8), .val vr_1, .val vr_2, .val vr_3, .val vr_4, .val (.ref b5), .val (.int (bI (mt (mkO cd1 ch1 ch2) (mkO cd2 ch3 ch4) (mkO cd3 ch5 ch6) (mkO cd4 ch7 ch8)))), .val (.int (0 : Int32)), .unset, .unset] [(.int cd2)])) (fun _ k => XS.iload X12.here hx rfl (hb hby at_215) rfl k) ?_
      refine GlW.pre (B := T12.setTop (mkF m 218 #[.val (.int p1), .val (.int p2), .val (.int p3), .val (.int p4), .val (.int cd1), .val (.int ch1), .val (.int ch2), .val (.int cd2), .val (.int ch3), .val (.int ch4), .val (.int cd3), .val (.int ch5), .val (.int ch6), .val (.int cd4), .val (.int ch7), .val (.int ch8), .val vr_1, .val vr_2, .val vr_3, .val vr_4, .val (.ref b5), .val (.int (bI (mt (mkO cd1 ch1 ch2) (mkO cd2 ch3 ch4) (mkO cd3 ch5 ch6) (mkO cd4 ch7 ch8)))), .val (.int (0 : Int32)), .unset, .unset] [(.int (3 : Int32)), (.int cd2)])) (fun _ k => XS.iconst X12.here hx rfl (hb hby at_217) k) ?_
      by_cases hc218_17 : cd2 = (3 : Int32)
      · refine GlW.pre (B := T12.setTop (mkF m 239 #[.val (.int p1), .val (.int p2), .val (.int p3), .val (.int p4), .val (.int cd1), .val (.int ch1), .val (.int ch2), .val (.int cd2), .val (.int ch3), .val (.int ch4), .val (.int cd3), .val (.int ch5), .val (.int ch6), .val (.int cd4), .val (.int ch7), .val (.int ch8), .val vr_1, .val vr_2, .val vr_3, .val vr_4, .val (.ref b5), .val (.int (bI (mt (mkO cd1 ch1 ch2) (mkO cd2 ch3 ch4) (mkO cd3 ch5 ch6) (mkO cd4 ch7 ch8)))), .val (.int (0 : Int32)), .unset, .unset] [])) (fun _ k => XS.icmpYes X12.here hx rfl (pc0 := 218) (pc' := 239) rfl (hb hby at_218) rfl (teq hc218_17).1 (by decide) (by decide) k) ?_
        refine GlW.pre (B := T12.setTop (mkF m 240 #[.val (.int p1), .val (.int p2), .val (.int p3), .val (.int p4), .val (.int cd1), .val (.int ch1), .val (.int ch2), .val (.int cd2), .val (.int ch3), .val (.int ch4), .val (.int cd3), .val (.int ch5), .val (.int ch6), .val (.int cd4), .val (.int ch7), .val (.int ch8), .val vr_1, .val vr_2, .val vr_3, .val vr_4, .val (.ref b5), .val (.int (bI (mt (mkO cd1 ch1 ch2) (mkO cd2 ch3 ch4) (mkO cd3 ch5 ch6) (mkO cd4 ch7 ch8)))), .val (.int (0 : Int32)), .unset, .unset] [(.int (1 : Int32))])) (fun _ k => XS.iconst X12.here hx rfl (hb hby at_239) k) ?_
        refine GlW.pre (B := T12.setTop (mkF m 244 #[.val (.int p1), .val (.int p2), .val (.int p3), .val (.int p4), .val (.int cd1), .val (.int ch1), .val (.int ch2), .val (.int cd2), .val (.int ch3), .val (.int ch4), .val (.int cd3), .val (.int ch5), .val (.int ch6), .val (.int cd4), .val (.int ch7), .val (.int ch8), .val vr_1, .val vr_2, .val vr_3, .val vr_4, .val (.ref b5), .val (.int (bI (mt (mkO cd1 ch1 ch2) (mkO cd2 ch3 ch4) (mkO cd3 ch5 ch6) (mkO cd4 ch7 ch8)))), .val (.int (0 : Int32)), .unset, .unset] [(.int (1 : Int32))])) (fun _ k => XS.goto X12.here hx rfl (pc0 := 240) (pc' := 244) rfl (hb hby at_240) (by decide) (by decide) k) ?_
        refine GlW.pre (B := T12.setTop (mkF m 246 #[.val (.int p1), .val (.int p2), .val (.int p3), .val (.int p4), .val (.int cd1), .val (.int ch1), .val (.int ch2), .val (.int cd2), .val (.int ch3), .val (.int ch4), .val (.int cd3), .val (.int ch5), .val (.int ch6), .val (.int cd4), .val (.int ch7), .val (.int ch8), .val vr_1, .val vr_2, .val vr_3, .val vr_4, .val (.ref b5), .val (.int (bI (mt (mkO cd1 ch1 ch2) (mkO cd2 ch3 ch4) (mkO cd3 ch5 ch6) (mkO cd4 ch7 ch8)))), .val (.int (0 : Int32)), .val (.int (1 : Int32)), .unset] [])) (fun _ k => XS.istore X12.here hx rfl (hb hby at_244) rfl (l' := #[.val (.int p1), .val (.int p2), .val (.int p3), .val (.int p4), .val (.int cd1), .val (.int ch1), .val (.int ch2), .val (.int cd2), .val (.int ch3), .val (.int ch4), .val (.int cd3), .val (.int ch5), .val (.int ch6), .val (.int cd4), .val (.int ch7), .val (.int ch8), .val vr_1, .val vr_2, .val vr_3, .val vr_4, .val (.ref b5), .val (.int (bI (mt (mkO cd1 ch1 ch2) (mkO cd2 ch3 ch4) (mkO cd3 ch5 ch6) (mkO cd4 ch7 ch8)))), .val (.int (0 : Int32)), .val (.int (1 : Int32)), .unset]) rfl k) ?_
        refine GlW.pre (B := T12.setTop (mkF m 248 #[.val (.int p1), .val (.int p2), .val (.int p3), .val (.int p4), .val (.int cd1), .val (.int ch1), .val (.int ch2), .val (.int cd2), .val (.int ch3), .val (.int ch4), .val (.int cd3), .val (.int ch5), .val (.int ch6), .val (.int cd4), .val (.int ch7), .val (.int ch8), .val vr_1, .val vr_2, .val vr_3, .val vr_4, .val (.ref b5), .val (.int (bI (mt (mkO cd1 ch1 ch2) (mkO cd2 ch3 ch4) (mkO cd3 ch5 ch6) (mkO cd4 ch7 ch8)))), .val (.int (0 : Int32)), .val (.int (1 : Int32)), .unset] [(.int (0 : Int32))])) (fun _ k => XS.iload X12.here hx rfl (hb hby at_246) rfl k) ?_
        refine GlW.pre (B := T12.setTop (mkF m 260 #[.val (.int p1), .val (.int p2), .val (.int p3), .val (.int p4), .val (.int cd1), .val (.int ch1), .val (.int ch2), .val (.int cd2), .val (.int ch3), .val (.int ch4), .val (.int cd3), .val (.int ch5), .val (.int ch6), .val (.int cd4), .val (.int ch7), .val (.int ch8), .val vr_1, .val vr_2, .val vr_3, .val vr_4, .val (.ref b5), .val (.int (bI (mt (mkO cd1 ch1 ch2) (mkO cd2 ch3 ch4) (mkO cd3 ch5 ch6) (mkO cd4 ch7 ch8)))), .val (.int (0 : Int32)), .val (.int (1 : Int32)), .unset] [])) (fun _ k => XS.ifYes X12.here hx rfl (pc0 := 248) (pc' := 260) rfl (hb hby at_248) rfl ((if0 _ _).trans (teq (by decide : (0 : Int32) = (0 : Int32))).1) (by decide) (by decide) k) ?_
        refine GlW.pre (B := T12.setTop (mkF m 261 #[.val (.int p1), .val (.int p2), .val (.int p3), .val (.int p4), .val (.int cd1), .val (.int ch1), .val (.int ch2), .val (.int cd2), .val (.int ch3), .val (.int ch4), .val (.int cd3), .val (.int ch5), .val (.int ch6), .val (.int cd4), .val (.int ch7), .val (.int ch8), .val vr_1, .val vr_2, .val vr_3, .val vr_4, .val (.ref b5), .val (.int (bI (mt (mkO cd1 ch1 ch2) (mkO cd2 ch3 ch4) (mkO cd3 ch5 ch6) (mkO cd4 ch7 ch8)))), .val (.int (0 : Int32)), .val (.int (1 : Int32)), .unset] [(.int (0 : Int32))])) (fun _ k => XS.iconst X12.here hx rfl (hb hby at_260) k) ?_
        refine GlW.pre (B := T12.setTop (mkF m 263 #[.val (.int p1), .val (.int p2), .val (.int p3), .val (.int p4), .val (.int cd1), .val (.int ch1), .val (.int ch2), .val (.int cd2), .val (.int ch3), .val (.int ch4), .val (.int cd3), .val (.int ch5), .val (.int ch6), .val (.int cd4), .val (.int ch7), .val (.int ch8), .val vr_1, .val vr_2, .val vr_3, .val vr_4, .val (.ref b5), .val (.int (bI (mt (mkO cd1 ch1 ch2) (mkO cd2 ch3 ch4) (mkO cd3 ch5 ch6) (mkO cd4 ch7 ch8)))), .val (.int (0 : Int32)), .val (.int (1 : Int32)), .val (.int (0 : Int32))] [])) (fun _ k => XS.istore X12.here hx rfl (hb hby at_261) rfl (l' := #[.val (.int p1), .val (.int p2), .val (.int p3), .val (.int p4), .val (.int cd1), .val (.int ch1), .val (.int ch2), .val (.int cd2), .val (.int ch3), .val (.int ch4), .val (.int cd3), .val (.int ch5), .val (.int ch6), .val (.int cd4), .val (.int ch7), .val (.int ch8), .val vr_1, .val vr_2, .val vr_3, .val vr_4, .val (.ref b5), .val (.int (bI (mt (mkO cd1 ch1 ch2) (mkO cd2 ch3 ch4) (mkO cd3 ch5 ch6) (mkO cd4 ch7 ch8)))), .val (.int (0 : Int32)), .val (.int (1 : Int32)), .val (.int (0 : Int32))]) rfl k) ?_
        refine GlW.pre (B := T12.setTop (mkF m 265 #[.val (.int p1), .val (.int p2), .val (.int p3), .val (.int p4), .val (.int cd1), .val (.int ch1), .val (.int ch2), .val (.int cd2), .val (.int ch3), .val (.int ch4), .val (.int cd3), .val (.int ch5), .val (.int ch6), .val (.int cd4), .val (.int ch7), .val (.int ch8), .val vr_1, .val vr_2, .val vr_3, .val vr_4, .val (.ref b5), .val (.int (bI (mt (mkO cd1 ch1 ch2) (mkO cd2 ch3 ch4) (mkO cd3 ch5 ch6) (mkO cd4 ch7 ch8)))), .val (.int (0 : Int32)), .val (.int (1 : Int32)), .val (.int (0 : Int32))] [(.int (bI (mt (mkO cd1 ch1 ch2) (mkO cd2 ch3 ch4) (mkO cd3 ch5 ch6) (mkO cd4 ch7 ch8))))])) (fun _ k => XS.iload X12.here hx rfl (hb hby at_263) rfl k) ?_
        refine GlW.pre (B := T12.setTop (mkF m 267 #[.val (.int p1), .val (.int p2), .val (.int p3), .val (.int p4), .val (.int cd1), .val (.int ch1), .val (.int ch2), .val (.int cd2), .val (.int ch3), .val (.int ch4), .val (.int cd3), .val (.int ch5), .val (.int ch6), .val (.int cd4), .val (.int ch7), .val (.int ch8), .val vr_1, .val vr_2, .val vr_3, .val vr_4, .val (.ref b5), .val (.int (bI (mt (mkO cd1 ch1 ch2) (mkO cd2 ch3 ch4) (mkO cd3 ch5 ch6) (mkO cd4 ch7 ch8)))), .val (.int (0 : Int32)), .val (.int (1 : Int32)), .val (.int (0 : Int32))] [(.int (0 : Int32)), (.int (bI (mt (mkO cd1 ch1 ch2) (mkO cd2 ch3 ch4) (mkO cd3 ch5 ch6) (mkO cd4 ch7 ch8))))])) (fun _ k => XS.iload X12.here hx rfl (hb hby at_265) rfl k) ?_
        refine GlW.pre (B := T12.setTop (mkF m 270 #[.val (.int p1), .val (.int p2), .val (.int p3), .val (.int p4), .val (.int cd1), .val (.int ch1), .val (.int ch2), .val (.int cd2), .val (.int ch3), .val (.int ch4), .val (.int cd3), .val (.int ch5), .val (.int ch6), .val (.int cd4), .val (.int ch7), .val (.int ch8), .val vr_1, .val vr_2, .val vr_3, .val vr_4, .val (.ref b5), .val (.int (bI (mt (mkO cd1 ch1 ch2) (mkO cd2 ch3 ch4) (mkO cd3 ch5 ch6) (mkO cd4 ch7 ch8)))), .val (.int (0 : Int32)), .val (.int (1 : Int32)), .val (.int (0 : Int32))] [])) (fun _ k => XS.icmpNo X12.here hx rfl (hb hby at_267) rfl (teq (by rw [mt2 r_cd1 r_cd3 r_cd2 r_cd4]; simp [bI, hc187_8, hc205_13, hc218_17] : (bI (mt (mkO cd1 ch1 ch2) (mkO cd2 ch3 ch4) (mkO cd3 ch5 ch6) (mkO cd4 ch7 ch8))) = (0 : Int32))).2 k) ?_
        refine GlW.pre (B := T12.setTop (mkF m 271 #[.val (.int p1), .val (.int p2), .val (.int p3), .val (.int p4), .val (.int cd1), .val (.int ch1), .val (.int ch2), .val (.int cd2), .val (.int ch3), .val (.int ch4), .val (.int cd3), .val (.int ch5), .val (.int ch6), .val (.int cd4), .val (.int ch7), .val (.int ch8), .val vr_1, .val vr_2, .val vr_3, .val vr_4, .val (.ref b5), .val (.int (bI (mt (mkO cd1 ch1 ch2) (mkO cd2 ch3 ch4) (mkO cd3 ch5 ch6) (mkO cd4 ch7 ch8)))), .val (.int (0 : Int32)), .val (.int (1 : Int32)), .val (.int (0 : Int32))] [(.int (1 : Int32))])) (fun _ k => XS.iconst X12.here hx rfl (hb hby at_270) k) ?_
        refine GlW.pre (B := T12.setTop (mkF m 275 #[.val (.int p1), .val (.int p2), .val (.int p3), .val (.int p4), .val (.int cd1), .val (.int ch1), .val (.int ch2), .val (.int cd2), .val (.int ch3), .val (.int ch4), .val (.int cd3), .val (.int ch5), .val (.int ch6), .val (.int cd4), .val (.int ch7), .val (.int ch8), .val vr_1, .val vr_2, .val vr_3, .val vr_4, .val (.ref b5), .val (.int (bI (mt (mkO cd1 ch1 ch2) (mkO cd2 ch3 ch4) (mkO cd3 ch5 ch6) (mkO cd4 ch7 ch8)))), .val (.int (0 : Int32)), .val (.int (1 : Int32)), .val (.int (0 : Int32))] [(.int (1 : Int32))])) (fun _ k => XS.goto X12.here hx rfl (pc0 := 271) (pc' := 275) rfl (hb hby at_271) (by decide) (by decide) k) ?_
        refine GlW.out X12 hsh e12 hS4 hk6 hZ4 hEL CR (v := some (.int (1 : Int32))) (fun h => by rw [hret] at h; cases h) hlk (fun fs hr => retN X12 hx (t := .boolean) hret (by simp) (hb hby at_275) hr) ?_ (by decide) (by decide)
        show Q_rm0 Z _ _ _ _ _ h0 n0 _ T12.heap _
        rw [e12]
        exact ⟨rfl, N12⟩
      · refine GlW.pre (B := T12.setTop (mkF m 221 #[.val (.int p1), .val (.int p2), .val (.int p3), .val (.int p4), .val (.int cd1), .val (.int ch1), .val (.int ch2), .val (.int cd2), .val (.int ch3), .val (.int ch4), .val (.int cd3), .val (.int ch5), .val (.int ch6), .val (.int cd4), .val (.int ch7), .val (.int ch8), .val vr_1, .val vr_2, .val vr_3, .val vr_4, .val (.ref b5), .val (.int (bI (mt (mkO cd1 ch1 ch2) (mkO cd2 ch3 ch4) (mkO cd3 ch5 ch6) (mkO cd4 ch7 ch8)))), .val (.int (0 : Int32)), .unset, .unset] [])) (fun _ k => XS.icmpNo X12.here hx rfl (hb hby at_218) rfl (feq hc218_17).1 k) ?_
        refine GlW.pre (B := T12.setTop (mkF m 223 #[.val (.int p1), .val (.int p2), .val (.int p3), .val (.int p4), .val (.int cd1), .val (.int ch1), .val (.int ch2), .val (.int cd2), .val (.int ch3), .val (.int ch4), .val (.int cd3), .val (.int ch5), .val (.int ch6), .val (.int cd4), .val (.int ch7), .val (.int ch8), .val vr_1, .val vr_2, .val vr_3, .val vr_4, .val (.ref b5), .val (.int (bI (mt (mkO cd1 ch1 ch2) (mkO cd2 ch3 ch4) (mkO cd3 ch5 ch6) (mkO cd4 ch7 ch8)))), .val (.int (0 : Int32)), .unset, .unset] [(.int cd2)])) (fun _ k => XS.iload X12.here hx rfl (hb hby at_221) rfl k) ?_
        refine GlW.pre (B := T12.setTop (mkF m 225 #[.val (.int p1), .val (.int p2), .val (.int p3), .val (.int p4), .val (.int cd1), .val (.int ch1), .val (.int ch2), .val (.int cd2), .val (.int ch3), .val (.int ch4), .val (.int cd3), .val (.int ch5), .val (.int ch6), .val (.int cd4), .val (.int ch7), .val (.int ch8), .val vr_1, .val vr_2, .val vr_3, .val vr_4, .val (.ref b5), .val (.int (bI (mt (mkO cd1 ch1 ch2) (mkO cd2 ch3 ch4) (mkO cd3 ch5 ch6) (mkO cd4 ch7 ch8)))), .val (.int (0 : Int32)), .unset, .unset] [(.int ch3), (.int cd2)])) (fun _ k => XS.iload X12.here hx rfl (hb hby at_223) rfl k) ?_
        refine GlW.pre (B := T12.setTop (mkF m 227 #[.val (.int p1), .val (.int p2), .val (.int p3), .val (.int p4), .val (.int cd1), .val (.int ch1), .val (.int ch2), .val (.int cd2), .val (.int ch3), .val (.int ch4), .val (.int cd3), .val (.int ch5), .val (.int ch6), .val (.int cd4), .val (.int ch7), .val (.int ch8), .val vr_1, .val vr_2, .val vr_3, .val vr_4, .val (.ref b5), .val (.int (bI (mt (mkO cd1 ch1 ch2) (mkO cd2 ch3 ch4) (mkO cd3 ch5 ch6) (mkO cd4 ch7 ch8)))), .val (.int (0 : Int32)), .unset, .unset] [(.int ch4), (.int ch3), (.int cd2)])) (fun _ k => XS.iload X12.here hx rfl (hb hby at_225) rfl k) ?_
        refine GlW.pre (B := T12.setTop (mkF m 229 #[.val (.int p1), .val (.int p2), .val (.int p3), .val (.int p4), .val (.int cd1), .val (.int ch1), .val (.int ch2), .val (.int cd2), .val (.int ch3), .val (.int ch4), .val (.int cd3), .val (.int ch5), .val (.int ch6), .val (.int cd4), .val (.int ch7), .val (.int ch8), .val vr_1, .val vr_2, .val vr_3, .val vr_4, .val (.ref b5), .val (.int (bI (mt (mkO cd1 ch1 ch2) (mkO cd2 ch3 ch4) (mkO cd3 ch5 ch6) (mkO cd4 ch7 ch8)))), .val (.int (0 : Int32)), .unset, .unset] [(.int cd4), (.int ch4), (.int ch3), (.int cd2)])) (fun _ k => XS.iload X12.here hx rfl (hb hby at_227) rfl k) ?_
        refine GlW.pre (B := T12.setTop (mkF m 231 #[.val (.int p1), .val (.int p2), .val (.int p3), .val (.int p4), .val (.int cd1), .val (.int ch1), .val (.int ch2), .val (.int cd2), .val (.int ch3), .val (.int ch4), .val (.int cd3), .val (.int ch5), .val (.int ch6), .val (.int cd4), .val (.int ch7), .val (.int ch8), .val vr_1, .val vr_2, .val vr_3, .val vr_4, .val (.ref b5), .val (.int (bI (mt (mkO cd1 ch1 ch2) (mkO cd2 ch3 ch4) (mkO cd3 ch5 ch6) (mkO cd4 ch7 ch8)))), .val (.int (0 : Int32)), .unset, .unset] [(.int ch7), (.int cd4), (.int ch4), (.int ch3), (.int cd2)])) (fun _ k => XS.iload X12.here hx rfl (hb hby at_229) rfl k) ?_
        refine GlW.pre (B := T12.setTop (mkF m 233 #[.val (.int p1), .val (.int p2), .val (.int p3), .val (.int p4), .val (.int cd1), .val (.int ch1), .val (.int ch2), .val (.int cd2), .val (.int ch3), .val (.int ch4), .val (.int cd3), .val (.int ch5), .val (.int ch6), .val (.int cd4), .val (.int ch7), .val (.int ch8), .val vr_1, .val vr_2, .val vr_3, .val vr_4, .val (.ref b5), .val (.int (bI (mt (mkO cd1 ch1 ch2) (mkO cd2 ch3 ch4) (mkO cd3 ch5 ch6) (mkO cd4 ch7 ch8)))), .val (.int (0 : Int32)), .unset, .unset] [(.int ch8), (.int ch7), (.int cd4), (.int ch4), (.int ch3), (.int cd2)])) (fun _ k => XS.iload X12.here hx rfl (hb hby at_231) rfl k) ?_
        obtain ⟨rv18, _, ⟨T18, L18, k18, n18⟩, -, X18, ⟨Lc18, hQ18, l18, y18, z18⟩, st18⟩ := Jvm.LawKit.callS X12 hx (y := (⟨"com/example/tranquility/tranquility/NameTestMatchesPinLaw", "same", "(ICCICC)Z"⟩ : MethodName)) ho4 (mvT hZ4 (hw _ (List.mem_of_getElem? (i := 68) rfl))) (mvT hZ4 (hw _ (List.mem_of_getElem? (i := 69) rfl))) (mvT hZ4 (hw _ (List.mem_of_getElem? (i := 2) rfl))) (mvT hZ4 (hw _ (List.mem_of_getElem? (i := 70) rfl))) (by decide) (backOf (W := 0) (sme l Z a0 hw [] cd2 ch3 ch4 cd4 ch7 ch8 T6.heap n0 Z0 ) hZ4 (hw _ (List.mem_of_getElem? (i := 70) rfl)) (hw _ (List.mem_of_getElem? (i := 2) rfl)) (by decide) (by decide)) (g := (mkF m 233 #[.val (.int p1), .val (.int p2), .val (.int p3), .val (.int p4), .val (.int cd1), .val (.int ch1), .val (.int ch2), .val (.int cd2), .val (.int ch3), .val (.int ch4), .val (.int cd3), .val (.int ch5), .val (.int ch6), .val (.int cd4), .val (.int ch7), .val (.int ch8), .val vr_1, .val vr_2, .val vr_3, .val vr_4, .val (.ref b5), .val (.int (bI (mt (mkO cd1 ch1 ch2) (mkO cd2 ch3 ch4) (mkO cd3 ch5 ch6) (mkO cd4 ch7 ch8)))), .val (.int (0 : Int32)), .unset, .unset] [(.int ch8), (.int ch7), (.int cd4), (.int ch4), (.int ch3), (.int cd2)])) rfl (by rw [hml]; rfl) (argsL := [(.int cd2), (.int ch3), (.int ch4), (.int cd4), (.int ch7), (.int ch8)]) (rest := []) (lenOf pd_7 rfl) rfl (by show 2 * 0 + _ ≤ _; exact Nat.le_of_eq rfl) (hb hby at_233) (fun _ _ => ⟨rfl, e12, (by decide : 25 + 0 ≤ _), (by decide : 50 + 0 ≤ _)⟩)
        dsimp only [Pt.U, Pt.locs, Pt.cells, Pt.slots] at X18 l18 y18 z18 st18 hQ18
        subst l18 y18 z18
        obtain ⟨rfl, N18q, e18⟩ := hQ18
        have N18 := Fr.app N12 N18q
        refine GlW.pre (B := T18.setTop (mkF m 236 #[.val (.int p1), .val (.int p2), .val (.int p3), .val (.int p4), .val (.int cd1), .val (.int ch1), .val (.int ch2), .val (.int cd2), .val (.int ch3), .val (.int ch4), .val (.int cd3), .val (.int ch5), .val (.int ch6), .val (.int cd4), .val (.int ch7), .val (.int ch8), .val vr_1, .val vr_2, .val vr_3, .val vr_4, .val (.ref b5), .val (.int (bI (mt (mkO cd1 ch1 ch2) (mkO cd2 ch3 ch4) (mkO cd3 ch5 ch6) (mkO cd4 ch7 ch8)))), .val (.int (0 : Int32)), .unset, .unset] [(.int (bI (sm cd2 ch3 ch4 cd4 ch7 ch8)))])) (fun _ k => st18 _ k) ?_
        rcases Bool.eq_false_or_eq_true (sm cd2 ch3 ch4 cd4 ch7 ch8) with hc236_19 | hc236_19
        · refine GlW.pre (B := T18.setTop (mkF m 239 #[.val (.int p1), .val (.int p2), .val (.int p3), .val (.int p4), .val (.int cd1), .val (.int ch1), .val (.int ch2), .val (.int cd2), .val (.int ch3), .val (.int ch4), .val (.int cd3), .val (.int ch5), .val (.int ch6), .val (.int cd4), .val (.int ch7), .val (.int ch8), .val vr_1, .val vr_2, .val vr_3, .val vr_4, .val (.ref b5), .val (.int (bI (mt (mkO cd1 ch1 ch2) (mkO cd2 ch3 ch4) (mkO cd3 ch5 ch6) (mkO cd4 ch7 ch8)))), .val (.int (0 : Int32)), .unset, .unset] [])) (fun _ k => XS.ifNo X18.here hx rfl (hb hby at_236) rfl ((if0 _ _).trans (feq (bI_t hc236_19)).1) k) ?_
          refine GlW.pre (B := T18.setTop (mkF m 240 #[.val (.int p1), .val (.int p2), .val (.int p3), .val (.int p4), .val (.int cd1), .val (.int ch1), .val (.int ch2), .val (.int cd2), .val (.int ch3), .val (.int ch4), .val (.int cd3), .val (.int ch5), .val (.int ch6), .val (.int cd4), .val (.int ch7), .val (.int ch8), .val vr_1, .val vr_2, .val vr_3, .val vr_4, .val (.ref b5), .val (.int (bI (mt (mkO cd1 ch1 ch2) (mkO cd2 ch3 ch4) (mkO cd3 ch5 ch6) (mkO cd4 ch7 ch8)))), .val (.int (0 : Int32)), .unset, .unset] [(.int (1 : Int32))])) (fun _ k => XS.iconst X18.here hx rfl (hb hby at_239) k) ?_
          refine GlW.pre (B := T18.setTop (mkF m 244 #[.val (.int p1), .val (.int p2), .val (.int p3), .val (.int p4), .val (.int cd1), .val (.int ch1), .val (.int ch2), .val (.int cd2), .val (.int ch3), .val (.int ch4), .val (.int cd3), .val (.int ch5), .val (.int ch6), .val (.int cd4), .val (.int ch7), .val (.int ch8), .val vr_1, .val vr_2, .val vr_3, .val vr_4, .val (.ref b5), .val (.int (bI (mt (mkO cd1 ch1 ch2) (mkO cd2 ch3 ch4) (mkO cd3 ch5 ch6) (mkO cd4 ch7 ch8)))), .val (.int (0 : Int32)), .unset, .unset] [(.int (1 : Int32))])) (fun _ k => XS.goto X18.here hx rfl (pc0 := 240) (pc' := 244) rfl (hb hby at_240) (by decide) (by decide) k) ?_
          refine GlW.pre (B := T18.setTop (mkF m 246 #[.val (.int p1), .val (.int p2), .val (.int p3), .val (.int p4), .val (.int cd1), .val (.int ch1), .val (.int ch2), .val (.int cd2), .val (.int ch3), .val (.int ch4), .val (.int cd3), .val (.int ch5), .val (.int ch6), .val (.int cd4), .val (.int ch7), .val (.int ch8), .val vr_1, .val vr_2, .val vr_3, .val vr_4, .val (.ref b5), .val (.int (bI (mt (mkO cd1 ch1 ch2) (mkO cd2 ch3 ch4) (mkO cd3 ch5 ch6) (mkO cd4 ch7 ch8)))), .val (.int (0 : Int32)), .val (.int (1 : Int32)), .unset] [])) (fun _ k => XS.istore X18.here hx rfl (hb hby at_244) rfl (l' := #[.val (.int p1), .val (.int p2), .val (.int p3), .val (.int p4), .val (.int cd1), .val (.int ch1), .val (.int ch2), .val (.int cd2), .val (.int ch3), .val (.int ch4), .val (.int cd3), .val (.int ch5), .val (.int ch6), .val (.int cd4), .val (.int ch7), .val (.int ch8), .val vr_1, .val vr_2, .val vr_3, .val vr_4, .val (.ref b5), .val (.int (bI (mt (mkO cd1 ch1 ch2) (mkO cd2 ch3 ch4) (mkO cd3 ch5 ch6) (mkO cd4 ch7 ch8)))), .val (.int (0 : Int32)), .val (.int (1 : Int32)), .unset]) rfl k) ?_
          refine GlW.pre (B := T18.setTop (mkF m 248 #[.val (.int p1), .val (.int p2), .val (.int p3), .val (.int p4), .val (.int cd1), .val (.int ch1), .val (.int ch2), .val (.int cd2), .val (.int ch3), .val (.int ch4), .val (.int cd3), .val (.int ch5), .val (.int ch6), .val (.int cd4), .val (.int ch7), .val (.int ch8), .val vr_1, .val vr_2, .val vr_3, .val vr_4, .val (.ref b5), .val (.int (bI (mt (mkO cd1 ch1 ch2) (mkO cd2 ch3 ch4) (mkO cd3 ch5 ch6) (mkO cd4 ch7 ch8)))), .val (.int (0 : Int32)), .val (.int (1 : Int32)), .unset] [(.int (0 : Int32))])) (fun _ k => XS.iload X18.here hx rfl (hb hby at_246) rfl k) ?_
          refine GlW.pre (B := T18.setTop (mkF m 260 #[.val (.int p1), .val (.int p2), .val (.int p3), .val (.int p4), .val (.int cd1), .val (.int ch1), .val (.int ch2), .val (.int cd2), .val (.int ch3), .val (.int ch4), .val (.int cd3), .val (.int ch5), .val (.int ch6), .val (.int cd4), .val (.int ch7), .val (.int ch8), .val vr_1, .val vr_2, .val vr_3, .val vr_4, .val (.ref b5), .val (.int (bI (mt (mkO cd1 ch1 ch2) (mkO cd2 ch3 ch4) (mkO cd3 ch5 ch6) (mkO cd4 ch7 ch8)))), .val (.int (0 : Int32)), .val (.int (1 : Int32)), .unset] [])) (fun _ k => XS.ifYes X18.here hx rfl (pc0 := 248) (pc' := 260) rfl (hb hby at_248) rfl ((if0 _ _).trans (teq (by decide : (0 : Int32) = (0 : Int32))).1) (by decide) (by decide) k) ?_
          refine GlW.pre (B := T18.setTop (mkF m 261 #[.val (.int p1), .val (.int p2), .val (.int p3), .val (.int p4), .val (.int cd1), .val (.int ch1), .val (.int ch2), .val (.int cd2), .val (.int ch3), .val (.int ch4), .val (.int cd3), .val (.int ch5), .val (.int ch6), .val (.int cd4), .val (.int ch7), .val (.int ch8), .val vr_1, .val vr_2, .val vr_3, .val vr_4, .val (.ref b5), .val (.int (bI (mt (mkO cd1 ch1 ch2) (mkO cd2 ch3 ch4) (mkO cd3 ch5 ch6) (mkO cd4 ch7 ch8)))), .val (.int (0 : Int32)), .val (.int (1 : Int32)), .unset] [(.int (0 : Int32))])) (fun _ k => XS.iconst X18.here hx rfl (hb hby at_260) k) ?_
          refine GlW.pre (B := T18.setTop (mkF m 263 #[.val (.int p1), .val (.int p2), .val (.int p3), .val (.int p4), .val (.int cd1), .val (.int ch1), .val (.int ch2), .val (.int cd2), .val (.int ch3), .val (.int ch4), .val (.int cd3), .val (.int ch5), .val (.int ch6), .val (.int cd4), .val (.int ch7), .val (.int ch8), .val vr_1, .val vr_2, .val vr_3, .val vr_4, .val (.ref b5), .val (.int (bI (mt (mkO cd1 ch1 ch2) (mkO cd2 ch3 ch4) (mkO cd3 ch5 ch6) (mkO cd4 ch7 ch8)))), .val (.int (0 : Int32)), .val (.int (1 : Int32)), .val (.int (0 : Int32))] [])) (fun _ k => XS.istore X18.here hx rfl (hb hby at_261) rfl (l' := #[.val (.int p1), .val (.int p2), .val (.int p3), .val (.int p4), .val (.int cd1), .val (.int ch1), .val (.int ch2), .val (.int cd2), .val (.int ch3), .val (.int ch4), .val (.int cd3), .val (.int ch5), .val (.int ch6), .val (.int cd4), .val (.int ch7), .val (.int ch8), .val vr_1, .val vr_2, .val vr_3, .val vr_4, .val (.ref b5), .val (.int (bI (mt (mkO cd1 ch1 ch2) (mkO cd2 ch3 ch4) (mkO cd3 ch5 ch6) (mkO cd4 ch7 ch8)))), .val (.int (0 : Int32)), .val (.int (1 : Int32)), .val (.int (0 : Int32))]) rfl k) ?_
          refine GlW.pre (B := T18.setTop (mkF m 265 #[.val (.int p1), .val (.int p2), .val (.int p3), .val (.int p4), .val (.int cd1), .val (.int ch1), .val (.int ch2), .val (.int cd2), .val (.int ch3), .val (.int ch4), .val (.int cd3), .val (.int ch5), .val (.int ch6), .val (.int cd4), .val (.int ch7), .val (.int ch8), .val vr_1, .val vr_2, .val vr_3, .val vr_4, .val (.ref b5), .val (.int (bI (mt (mkO cd1 ch1 ch2) (mkO cd2 ch3 ch4) (mkO cd3 ch5 ch6) (mkO cd4 ch7 ch8)))), .val (.int (0 : Int32)), .val (.int (1 : Int32)), .val (.int (0 : Int32))] [(.int (bI (mt (mkO cd1 ch1 ch2) (mkO cd2 ch3 ch4) (mkO cd3 ch5 ch6) (mkO cd4 ch7 ch8))))])) (fun _ k => XS.iload X18.here hx rfl (hb hby at_263) rfl k) ?_
          refine GlW.pre (B := T18.setTop (mkF m 267 #[.val (.int p1), .val (.int p2), .val (.int p3), .val (.int p4), .val (.int cd1), .val (.int ch1), .val (.int ch2), .val (.int cd2), .val (.int ch3), .val (.int ch4), .val (.int cd3), .val (.int ch5), .val (.int ch6), .val (.int cd4), .val (.int ch7), .val (.int ch8), .val vr_1, .val vr_2, .val vr_3, .val vr_4, .val (.ref b5), .val (.int (bI (mt (mkO cd1 ch1 ch2) (mkO cd2 ch3 ch4) (mkO cd3 ch5 ch6) (mkO cd4 ch7 ch8)))), .val (.int (0 : Int32)), .val (.int (1 : Int32)), .val (.int (0 : Int32))] [(.int (0 : Int32)), (.int (bI (mt (mkO cd1 ch1 ch2) (mkO cd2 ch3 ch4) (mkO cd3 ch5 ch6) (mkO cd4 ch7 ch8))))])) (fun _ k => XS.iload X18.here hx rfl (hb hby at_265) rfl k) ?_
          refine GlW.pre (B := T18.setTop (mkF m 270 #[.val (.int p1), .val (.int p2), .val (.int p3), .val (.int p4), .val (.int cd1), .val (.int ch1), .val (.int ch2), .val (.int cd2), .val (.int ch3), .val (.int ch4), .val (.int cd3), .val (.int ch5), .val (.int ch6), .val (.int cd4), .val (.int ch7), .val (.int ch8), .val vr_1, .val vr_2, .val vr_3, .val vr_4, .val (.ref b5), .val (.int (bI (mt (mkO cd1 ch1 ch2) (mkO cd2 ch3 ch4) (mkO cd3 ch5 ch6) (mkO cd4 ch7 ch8)))), .val (.int (0 : Int32)), .val (.int (1 : Int32)), .val (.int (0 : Int32))] [])) (fun _ k => XS.icmpNo X18.here hx rfl (hb hby at_267) rfl (teq (by rw [mt2 r_cd1 r_cd3 r_cd2 r_cd4]; simp [bI, hc187_8, hc205_13, hc218_17, hc236_19] : (bI (mt (mkO cd1 ch1 ch2) (mkO cd2 ch3 ch4) (mkO cd3 ch5 ch6) (mkO cd4 ch7 ch8))) = (0 : Int32))).2 k) ?_
          refine GlW.pre (B := T18.setTop (mkF m 271 #[.val (.int p1), .val (.int p2), .val (.int p3), .val (.int p4), .val (.int cd1), .val (.int ch1), .val (.int ch2), .val (.int cd2), .val (.int ch3), .val (.int ch4), .val (.int cd3), .val (.int ch5), .val (.int ch6), .val (.int cd4), .val (.int ch7), .val (.int ch8), .val vr_1, .val vr_2, .val vr_3, .val vr_4, .val (.ref b5), .val (.int (bI (mt (mkO cd1 ch1 ch2) (mkO cd2 ch3 ch4) (mkO cd3 ch5 ch6) (mkO cd4 ch7 ch8)))), .val (.int (0 : Int32)), .val (.int (1 : Int32)), .val (.int (0 : Int32))] [(.int (1 : Int32))])) (fun _ k => XS.iconst X18.here hx rfl (hb hby at_270) k) ?_
          refine GlW.pre (B := T18.setTop (mkF m 275 #[.val (.int p1), .val (.int p2), .val (.int p3), .val (.int p4), .val (.int cd1), .val (.int ch1), .val (.int ch2), .val (.int cd2), .val (.int ch3), .val (.int ch4), .val (.int cd3), .val (.int ch5), .val (.int ch6), .val (.int cd4), .val (.int ch7), .val (.int ch8), .val vr_1, .val vr_2, .val vr_3, .val vr_4, .val (.ref b5), .val (.int (bI (mt (mkO cd1 ch1 ch2) (mkO cd2 ch3 ch4) (mkO cd3 ch5 ch6) (mkO cd4 ch7 ch8)))), .val (.int (0 : Int32)), .val (.int (1 : Int32)), .val (.int (0 : Int32))] [(.int (1 : Int32))])) (fun _ k => XS.goto X18.here hx rfl (pc0 := 271) (pc' := 275) rfl (hb hby at_271) (by decide) (by decide) k) ?_
          refine GlW.out X18 hsh e18 hS4 hk6 hZ4 hEL CR (v := some (.int (1 : Int32))) (fun h => by rw [hret] at h; cases h) hlk (fun fs hr => retN X18 hx (t := .boolean) hret (by simp) (hb hby at_275) hr) ?_ (by decide) (by decide)
          show Q_rm0 Z _ _ _ _ _ h0 n0 _ T18.heap _
          rw [e18]
          exact ⟨rfl, N18⟩
        · refine GlW.pre (B := T18.setTop (mkF m 243 #[.val (.int p1), .val (.int p2), .val (.int p3), .val (.int p4), .val (.int cd1), .val (.int ch1), .val (.int ch2), .val (.int cd2), .val (.int ch3), .val (.int ch4), .val (.int cd3), .val (.int ch5), .val (.int ch6), .val (.int cd4), .val (.int ch7), .val (.int ch8), .val vr_1, .val vr_2, .val vr_3, .val vr_4, .val (.ref b5), .val (.int (bI (mt (mkO cd1 ch1 ch2) (mkO cd2 ch3 ch4) (mkO cd3 ch5 ch6) (mkO cd4 ch7 ch8)))), .val (.int (0 : Int32)), .unset, .unset] [])) (fun _ k => XS.ifYes X18.here hx rfl (pc0 := 236) (pc' := 243) rfl (hb hby at_236) rfl ((if0 _ _).trans (teq (bI_f hc236_19)).1) (by decide) (by decide) k) ?_
          refine GlW.pre (B := T18.setTop (mkF m 244 #[.val (.int p1), .val (.int p2), .val (.int p3), .val (.int p4), .val (.int cd1), .val (.int ch1), .val (.int ch2), .val (.int cd2), .val (.int ch3), .val (.int ch4), .val (.int cd3), .val (.int ch5), .val (.int ch6), .val (.int cd4), .val (.int ch7), .val (.int ch8), .val vr_1, .val vr_2, .val vr_3, .val vr_4, .val (.ref b5), .val (.int (bI (mt (mkO cd1 ch1 ch2) (mkO cd2 ch3 ch4) (mkO cd3 ch5 ch6) (mkO cd4 ch7 ch8)))), .val (.int (0 : Int32)), .unset, .unset] [(.int (0 : Int32))])) (fun _ k => XS.iconst X18.here hx rfl (hb hby at_243) k) ?_
          refine GlW.pre (B := T18.setTop (mkF m 246 #[.val (.int p1), .val (.int p2), .val (.int p3), .val (.int p4), .val (.int cd1), .val (.int ch1), .val (.int ch2), .val (.int cd2), .val (.int ch3), .val (.int ch4), .val (.int cd3), .val (.int ch5), .val (.int ch6), .val (.int cd4), .val (.int ch7), .val (.int ch8), .val vr_1, .val vr_2, .val vr_3, .val vr_4, .val (.ref b5), .val (.int (bI (mt (mkO cd1 ch1 ch2) (mkO cd2 ch3 ch4) (mkO cd3 ch5 ch6) (mkO cd4 ch7 ch8)))), .val (.int (0 : Int32)), .val (.int (0 : Int32)), .unset] [])) (fun _ k => XS.istore X18.here hx rfl (hb hby at_244) rfl (l' := #[.val (.int p1), .val (.int p2), .val (.int p3), .val (.int p4), .val (.int cd1), .val (.int ch1), .val (.int ch2), .val (.int cd2), .val (.int ch3), .val (.int ch4), .val (.int cd3), .val (.int ch5), .val (.int ch6), .val (.int cd4), .val (.int ch7), .val (.int ch8), .val vr_1, .val vr_2, .val vr_3, .val vr_4, .val (.ref b5), .val (.int (bI (mt (mkO cd1 ch1 ch2) (mkO cd2 ch3 ch4) (mkO cd3 ch5 ch6) (mkO cd4 ch7 ch8)))), .val (.int (0 : Int32)), .val (.int (0 : Int32)), .unset]) rfl k) ?_
          refine GlW.pre (B := T18.setTop (mkF m 248 #[.val (.int p1), .val (.int p2), .val (.int p3), .val (.int p4), .val (.int cd1), .val (.int ch1), .val (.int ch2), .val (.int cd2), .val (.int ch3), .val (.int ch4), .val (.int cd3), .val (.int ch5), .val (.int ch6), .val (.int cd4), .val (.int ch7), .val (.int ch8), .val vr_1, .val vr_2, .val vr_3, .val vr_4, .val (.ref b5), .val (.int (bI (mt (mkO cd1 ch1 ch2) (mkO cd2 ch3 ch4) (mkO cd3 ch5 ch6) (mkO cd4 ch7 ch8)))), .val (.int (0 : Int32)), .val (.int (0 : Int32)), .unset] [(.int (0 : Int32))])) (fun _ k => XS.iload X18.here hx rfl (hb hby at_246) rfl k) ?_
          refine GlW.pre (B := T18.setTop (mkF m 260 #[.val (.int p1), .val (.int p2), .val (.int p3), .val (.int p4), .val (.int cd1), .val (.int ch1), .val (.int ch2), .val (.int cd2), .val (.int ch3), .val (.int ch4), .val (.int cd3), .val (.int ch5), .val (.int ch6), .val (.int cd4), .val (.int ch7), .val (.int ch8), .val vr_1, .val vr_2, .val vr_3, .val vr_4, .val (.ref b5), .val (.int (bI (mt (mkO cd1 ch1 ch2) (mkO cd2 ch3 ch4) (mkO cd3 ch5 ch6) (mkO cd4 ch7 ch8)))), .val (.int (0 : Int32)), .val (.int (0 : Int32)), .unset] [])) (fun _ k => XS.ifYes X18.here hx rfl (pc0 := 248) (pc' := 260) rfl (hb hby at_248) rfl ((if0 _ _).trans (teq (by decide : (0 : Int32) = (0 : Int32))).1) (by decide) (by decide) k) ?_
          refine GlW.pre (B := T18.setTop (mkF m 261 #[.val (.int p1), .val (.int p2), .val (.int p3), .val (.int p4), .val (.int cd1), .val (.int ch1), .val (.int ch2), .val (.int cd2), .val (.int ch3), .val (.int ch4), .val (.int cd3), .val (.int ch5), .val (.int ch6), .val (.int cd4), .val (.int ch7), .val (.int ch8), .val vr_1, .val vr_2, .val vr_3, .val vr_4, .val (.ref b5), .val (.int (bI (mt (mkO cd1 ch1 ch2) (mkO cd2 ch3 ch4) (mkO cd3 ch5 ch6) (mkO cd4 ch7 ch8)))), .val (.int (0 : Int32)), .val (.int (0 : Int32)), .unset] [(.int (0 : Int32))])) (fun _ k => XS.iconst X18.here hx rfl (hb hby at_260) k) ?_
          refine GlW.pre (B := T18.setTop (mkF m 263 #[.val (.int p1), .val (.int p2), .val (.int p3), .val (.int p4), .val (.int cd1), .val (.int ch1), .val (.int ch2), .val (.int cd2), .val (.int ch3), .val (.int ch4), .val (.int cd3), .val (.int ch5), .val (.int ch6), .val (.int cd4), .val (.int ch7), .val (.int ch8), .val vr_1, .val vr_2, .val vr_3, .val vr_4, .val (.ref b5), .val (.int (bI (mt (mkO cd1 ch1 ch2) (mkO cd2 ch3 ch4) (mkO cd3 ch5 ch6) (mkO cd4 ch7 ch8)))), .val (.int (0 : Int32)), .val (.int (0 : Int32)), .val (.int (0 : Int32))] [])) (fun _ k => XS.istore X18.here hx rfl (hb hby at_261) rfl (l' := #[.val (.int p1), .val (.int p2), .val (.int p3), .val (.int p4), .val (.int cd1), .val (.int ch1), .val (.int ch2), .val (.int cd2), .val (.int ch3), .val (.int ch4), .val (.int cd3), .val (.int ch5), .val (.int ch6), .val (.int cd4), .val (.int ch7), .val (.int ch8), .val vr_1, .val vr_2, .val vr_3, .val vr_4, .val (.ref b5), .val (.int (bI (mt (mkO cd1 ch1 ch2) (mkO cd2 ch3 ch4) (mkO cd3 ch5 ch6) (mkO cd4 ch7 ch8)))), .val (.int (0 : Int32)), .val (.int (0 : Int32)), .val (.int (0 : Int32))]) rfl k) ?_
          refine GlW.pre (B := T18.setTop (mkF m 265 #[.val (.int p1), .val (.int p2), .val (.int p3), .val (.int p4), .val (.int cd1), .val (.int ch1), .val (.int ch2), .val (.int cd2), .val (.int ch3), .val (.int ch4), .val (.int cd3), .val (.int ch5), .val (.int ch6), .val (.int cd4), .val (.int ch7), .val (.int ch8), .val vr_1, .val vr_2, .val vr_3, .val vr_4, .val (.ref b5), .val (.int (bI (mt (mkO cd1 ch1 ch2) (mkO cd2 ch3 ch4) (mkO cd3 ch5 ch6) (mkO cd4 ch7 ch8)))), .val (.int (0 : Int32)), .val (.int (0 : Int32)), .val (.int (0 : Int32))] [(.int (bI (mt (mkO cd1 ch1 ch2) (mkO cd2 ch3 ch4) (mkO cd3 ch5 ch6) (mkO cd4 ch7 ch8))))])) (fun _ k => XS.iload X18.here hx rfl (hb hby at_263) rfl k) ?_
          refine GlW.pre (B := T18.setTop (mkF m 267 #[.val (.int p1), .val (.int p2), .val (.int p3), .val (.int p4), .val (.int cd1), .val (.int ch1), .val (.int ch2), .val (.int cd2), .val (.int ch3), .val (.int ch4), .val (.int cd3), .val (.int ch5), .val (.int ch6), .val (.int cd4), .val (.int ch7), .val (.int ch8), .val vr_1, .val vr_2, .val vr_3, .val vr_4, .val (.ref b5), .val (.int (bI (mt (mkO cd1 ch1 ch2) (mkO cd2 ch3 ch4) (mkO cd3 ch5 ch6) (mkO cd4 ch7 ch8)))), .val (.int (0 : Int32)), .val (.int (0 : Int32)), .val (.int (0 : Int32))] [(.int (0 : Int32)), (.int (bI (mt (mkO cd1 ch1 ch2) (mkO cd2 ch3 ch4) (mkO cd3 ch5 ch6) (mkO cd4 ch7 ch8))))])) (fun _ k => XS.iload X18.here hx rfl (hb hby at_265) rfl k) ?_
          refine GlW.pre (B := T18.setTop (mkF m 270 #[.val (.int p1), .val (.int p2), .val (.int p3), .val (.int p4), .val (.int cd1), .val (.int ch1), .val (.int ch2), .val (.int cd2), .val (.int ch3), .val (.int ch4), .val (.int cd3), .val (.int ch5), .val (.int ch6), .val (.int cd4), .val (.int ch7), .val (.int ch8), .val vr_1, .val vr_2, .val vr_3, .val vr_4, .val (.ref b5), .val (.int (bI (mt (mkO cd1 ch1 ch2) (mkO cd2 ch3 ch4) (mkO cd3 ch5 ch6) (mkO cd4 ch7 ch8)))), .val (.int (0 : Int32)), .val (.int (0 : Int32)), .val (.int (0 : Int32))] [])) (fun _ k => XS.icmpNo X18.here hx rfl (hb hby at_267) rfl (teq (by rw [mt2 r_cd1 r_cd3 r_cd2 r_cd4]; simp [bI, hc187_8, hc205_13, hc218_17, hc236_19] : (bI (mt (mkO cd1 ch1 ch2) (mkO cd2 ch3 ch4) (mkO cd3 ch5 ch6) (mkO cd4 ch7 ch8))) = (0 : Int32))).2 k) ?_
          refine GlW.pre (B := T18.setTop (mkF m 271 #[.val (.int p1), .val (.int p2), .val (.int p3), .val (.int p4), .val (.int cd1), .val (.int ch1), .val (.int ch2), .val (.int cd2), .val (.int ch3), .val (.int ch4), .val (.int cd3), .val (.int ch5), .val (.int ch6), .val (.int cd4), .val (.int ch7), .val (.int ch8), .val vr_1, .val vr_2, .val vr_3, .val vr_4, .val (.ref b5), .val (.int (bI (mt (mkO cd1 ch1 ch2) (mkO cd2 ch3 ch4) (mkO cd3 ch5 ch6) (mkO cd4 ch7 ch8)))), .val (.int (0 : Int32)), .val (.int (0 : Int32)), .val (.int (0 : Int32))] [(.int (1 : Int32))])) (fun _ k => XS.iconst X18.here hx rfl (hb hby at_270) k) ?_
          refine GlW.pre (B := T18.setTop (mkF m 275 #[.val (.int p1), .val (.int p2), .val (.int p3), .val (.int p4), .val (.int cd1), .val (.int ch1), .val (.int ch2), .val (.int cd2), .val (.int ch3), .val (.int ch4), .val (.int cd3), .val (.int ch5), .val (.int ch6), .val (.int cd4), .val (.int ch7), .val (.int ch8), .val vr_1, .val vr_2, .val vr_3, .val vr_4, .val (.ref b5), .val (.int (bI (mt (mkO cd1 ch1 ch2) (mkO cd2 ch3 ch4) (mkO cd3 ch5 ch6) (mkO cd4 ch7 ch8)))), .val (.int (0 : Int32)), .val (.int (0 : Int32)), .val (.int (0 : Int32))] [(.int (1 : Int32))])) (fun _ k => XS.goto X18.here hx rfl (pc0 := 271) (pc' := 275) rfl (hb hby at_271) (by decide) (by decide) k) ?_
          refine GlW.out X18 hsh e18 hS4 hk6 hZ4 hEL CR (v := some (.int (1 : Int32))) (fun h => by rw [hret] at h; cases h) hlk (fun fs hr => retN X18 hx (t := .boolean) hret (by simp) (hb hby at_275) hr) ?_ (by decide) (by decide)
          show Q_rm0 Z _ _ _ _ _ h0 n0 _ T18.heap _
          rw [e18]
          exact ⟨rfl, N18⟩
set_option maxRecDepth 65536 in
set_option maxHeartbeats 40000000 in
theorem comes_1 {Post : Tables → Env → Array Value → State → Outcome → State → Prop} (hpost : ∀ tb e args s v u, (limb_1_1.after args s (.returned v) u = true ∧ limb_1_2.after args s (.returned v) u = true ∧ True) → ReturnedEndW s (.returned v) u (Jvm.fieldLocs frame_1_writes args s ++ Jvm.arrayLocs frame_1_arrays args s ++ Jvm.staticLocs frame_1_statics s) 40 1216 → Post tb e args s (.returned v) u) :
    ArmFor flags0 classFile x code maxLocals ret World_1 tables_1 room_1 Calls_1 rest_1 Pre_1 Post := by
  intro l hfl _ _ p e ha hc hk s m args below hf hA hF happ hP
  obtain ⟨hcalls, hrest, hpre⟩ := hP
  obtain ⟨-, -, -, hnamed, -, -, -, hat⟩ := (Spec.applies_iff hf).mp happ
  obtain ⟨hg, hn⟩ := and_e (Cond.before_iff.mp (show (Jvm.Cond.and given_1 narrow_1).before args s = true from hpre))
  obtain ⟨h1, hr1⟩ := and_e hg
  obtain ⟨hi0, hr2⟩ := and_e hr1
  obtain ⟨hi1, hr3⟩ := and_e hr2
  obtain ⟨hi2, hr4⟩ := and_e hr3
  have hi3 := hr4
  obtain ⟨w0, w1, w2, w3, rfl⟩ : ∃ w0 w1 w2 w3 : Value, args = #[w0, w1, w2, w3] := by
    have hs : args.size = 4 := by simpa [Cond.value, given_1] using h1
    obtain ⟨L⟩ := args
    match L, hs with
    | [w0, w1, w2, w3], _ => exact ⟨w0, w1, w2, w3, rfl⟩
  have hw := fun d (hd : d ∈ tables_1) => atoms_spec (ws := Jvm.Cond.code x code maxLocals ret :: tables_1) hat d (List.mem_cons_of_mem _ hd)
  have hfit : Fit s := fun {y c} hc i hi => by
    obtain ⟨ha, rfl⟩ := Array.getElem?_eq_some_iff.mp hc
    have q := List.all_eq_true.mp ((Array.all_eq_true_iff_forall_mem.mp hF) _ (Array.getElem_mem ha)) i (List.mem_range.mpr hi)
    simpa [Array.getElem?_eq_getElem hi] using q
  obtain ⟨hsets, hown0⟩ := atoms_of _ (rest_1_c_eq ▸ (show rest_1_c.before _ s = true from hrest))
  have hr0 := Cond.before_iff.mp hown0
  obtain ⟨i0, ei0⟩ := is_v hi0
  obtain rfl : w0 = (.int i0) := Option.some.inj ei0
  obtain ⟨i1, ei1⟩ := is_v hi1
  obtain rfl : w1 = (.int i1) := Option.some.inj ei1
  obtain ⟨i2, ei2⟩ := is_v hi2
  obtain rfl : w2 = (.int i2) := Option.some.inj ei2
  obtain ⟨i3, ei3⟩ := is_v hi3
  obtain rfl : w3 = (.int i3) := Option.some.inj ei3
  have n3 := not_v (Cond.before_iff.mp (hsets _ (List.mem_of_getElem? (i := 2) rfl)))
  obtain ⟨i7, e6⟩ := is_v (Cond.before_iff.mp (hsets _ (List.mem_of_getElem? (i := 1) rfl)))
  have S8 : Sta s s.heap "java/lang/String" "COMPACT_STRINGS" "Z" (.int i7) := Sta.start e6 (Or.inl (hsets _ (List.mem_of_getElem? (i := 0) rfl)))
  have c13 : ¬ (i7 = (0 : Int32)) := gotF (Cond.eq_ints e6 (Term.int_eval (0))) n3
  have hCH : CHv s EL1 s.vm s.heap := CHv.start (ew_all hw) hcalls.1 (hsets _ (List.mem_of_getElem? (i := 2) rfl)) (hw _ (List.mem_of_getElem? (i := 19) rfl)) (hw _ (List.mem_of_getElem? (i := 5) rfl))
  obtain ⟨n, o, h1, h2, h3, _, L, rfl, ⟨rfl, N⟩, -, hq⟩ := rm0 l s _ hw tables_1 i0 i1 i2 i3 i7 s.heap s.heap.size (Nat.le_refl _) S8 c13 (Old.start s) p e ha hc hk s m _ below hf ((Spec.applies_iff_loose hf).mp happ).1 ⟨rfl, State.Warmed39.refl s, rfl, hCH⟩ trivial
  refine ⟨n, _, h1, h2, h3, hpost _ _ _ _ _ _ ⟨Cond.after_iff.mpr rfl, Cond.after_iff.mpr (eq_i res_at (Term.int_eval (1)) rfl), trivial⟩ ⟨hq.1, hq.2.1, hq.2.2.1, (hq.2.2.2.sift fun y hy => Or.inr (N y hy)).mono (by decide) (by decide)⟩⟩
theorem main_1_1 : Claimed_1_1 := comes_1 fun _ _ _ _ _ _ h hF => ⟨h.1, hF⟩
theorem main_1_2 : Claimed_1_2 := comes_1 fun _ _ _ _ _ _ h hF => ⟨h.2.1, hF⟩
end Jvm.Pilot.@@N@@
namespace Jvm.Pilot.@@N@@
open Jvm Jvm.ClassFile Sem Op Lib Jvm.Free Jvm.Stand Jvm.Pilot.@@N@@.Jvm.D
/-! MADE BY PROGRAM (witnessworld.py) out of the Statement's table words and the real class files: 21 classes; the members and pool entries that the words name. The judged class is class 1, her method 1. -/
namespace start1
open Jvm.ClassFile
def u (s : String) : CpInfo := .utf8 (stringToUtf16 s)
/-- a pool by its gaps: so many unusable entries, then the entry; so many at the end -/
def gap : Nat → List CpInfo → List CpInfo
  | 0, r => r
  | n + 1, r => .unusable :: gap n r
def poolList (es : List (Nat × CpInfo)) (last : Nat) : List CpInfo := es.foldr (fun e r => gap e.1 (e.2 :: r)) (gap last [])
def pool (es : List (Nat × CpInfo)) (last : Nat) : Array CpInfo := ⟨poolList es last⟩
def fileOf (pool : Array CpInfo) (this : Nat) (attrs : Array Attribute := #[]) (ms : Array MethodInfo := #[]) (fl : Nat := 33) (sup : Nat := 0) (ifs : Array Nat := #[]) (fds : Array FieldInfo := #[]) : ClassFile where
  minorVersion := 0
  majorVersion := 65
  constantPool := pool
  accessFlags := fl
  thisClass := this
  superClass := sup
  interfaces := ifs
  fields := fds
  methods := ms
  attributes := attrs
def plain (name : String) (sup : Option ClassId) : Class where
  name := name
  kind := .ordinary
  loader := none
  accessFlags := 33
  super := sup
  interfaces := #[]
  cf := none
  fields := #[]
  methods := #[]
  instanceTypes := #[]
  staticTypes := #[]
  resolved := #[]
  callSites := []
  init := .initialized
  statics := none
  mirror := none

def pool0 : Array CpInfo := pool [(5, u "<init>"), (0, u "()V"), (1, .class_ 10), (1, u "java/lang/Object")] 113

def k0c0 : Code := { maxStack := 0, maxLocals := 1, code := object_method_1_code, exceptionTable := #[], attributes := #[] }
def k0m0 : Method := { name := "<init>", desc := "()V", sig := { parameters := [], returnType := none }, accessFlags := 1, code := some k0c0 }
/-- java/lang/Object -/
def k0 : Class := { plain "java/lang/Object" none with
  accessFlags := 33
  interfaces := #[]
  cf := some (fileOf pool0 8 #[] #[{ accessFlags := 1, nameIndex := 5, descriptorIndex := 6, attributes := #[] }] 33 0 #[] #[])
  fields := #[]
  methods := #[k0m0]
  instanceTypes := #[]
  staticTypes := #[]
  resolved := Array.replicate 124 none
  statics := none }

def pool1 : Array CpInfo := pool [(2, .class_ 4), (1, u "java/lang/Object"), (0, u "<init>"), (0, u "()V"), (0, .methodref 8 9), (0, .class_ 10), (0, .nameAndType 11 12), (0, u "com/example/tranquility/tranquility/NameTestMatchesPinLaw"), (0, u "make"), (0, u "(ICC)Ljava/lang/String;"), (0, .class_ 14), (0, u "com/example/tranquility/tranquility/LocationPath$NameTest"), (0, .methodref 13 16), (0, .nameAndType 5 17), (0, u "(Ljava/lang/String;Ljava/lang/String;)V"), (0, .methodref 13 19), (0, .nameAndType 20 21), (0, u "matches"), (0, u "(Ljava/lang/String;Ljava/lang/String;)Z"), (0, .methodref 8 23), (0, .nameAndType 24 25), (0, u "same"), (0, u "(ICCICC)Z"), (0, .class_ 27), (0, u "java/lang/String"), (0, .methodref 26 29), (0, .nameAndType 5 30), (0, u "([C)V"), (2, u "law"), (0, u "(IIII)Z")] 7

def k1m0 : Method := { name := "<init>", desc := "()V", sig := { parameters := [], returnType := none }, accessFlags := 1, code := none }
def k1c1 : Code := { maxStack := 6, maxLocals := 25, code := code, exceptionTable := #[], attributes := #[] }
def k1m1 : Method := { name := "law", desc := "(IIII)Z", sig := { parameters := [.int, .int, .int, .int], returnType := some .boolean }, accessFlags := 9, code := some k1c1 }
def k1c2 : Code := { maxStack := 3, maxLocals := 4, code := method_3_code, exceptionTable := #[], attributes := #[] }
def k1m2 : Method := { name := "make", desc := "(ICC)Ljava/lang/String;", sig := { parameters := [.int, .char, .char], returnType := some (.object "java/lang/String") }, accessFlags := 10, code := some k1c2 }
def k1c3 : Code := { maxStack := 2, maxLocals := 6, code := method_4_code, exceptionTable := #[], attributes := #[] }
def k1m3 : Method := { name := "same", desc := "(ICCICC)Z", sig := { parameters := [.int, .char, .char, .int, .char, .char], returnType := some .boolean }, accessFlags := 10, code := some k1c3 }
/-- com/example/tranquility/tranquility/NameTestMatchesPinLaw -/
def k1 : Class := { plain "com/example/tranquility/tranquility/NameTestMatchesPinLaw" (some 0) with
  accessFlags := 49
  interfaces := #[]
  cf := some (fileOf pool1 8 #[] #[{ accessFlags := 1, nameIndex := 5, descriptorIndex := 6, attributes := #[] }, { accessFlags := 9, nameIndex := 33, descriptorIndex := 34, attributes := #[] }, { accessFlags := 10, nameIndex := 11, descriptorIndex := 12, attributes := #[] }, { accessFlags := 10, nameIndex := 24, descriptorIndex := 25, attributes := #[] }] 49 2 #[] #[])
  fields := #[]
  methods := #[k1m0, k1m1, k1m2, k1m3]
  instanceTypes := #[]
  staticTypes := #[]
  resolved := Array.replicate 42 none
  statics := none }

def pool2 : Array CpInfo := pool [(1, .class_ 2), (0, u "java/io/Serializable"), (0, .class_ 4), (0, u "java/lang/Object")] 2

/-- java/io/Serializable -/
def k2 : Class := { plain "java/io/Serializable" (some 0) with
  accessFlags := 1537
  interfaces := #[]
  cf := some (fileOf pool2 1 #[] #[] 1537 3 #[] #[])
  fields := #[]
  methods := #[]
  instanceTypes := #[]
  staticTypes := #[]
  resolved := Array.replicate 7 none
  statics := none }

def pool3 : Array CpInfo := pool [(1, .class_ 2), (0, u "java/lang/Comparable"), (0, .class_ 4), (0, u "java/lang/Object")] 7

/-- java/lang/Comparable -/
def k3 : Class := { plain "java/lang/Comparable" (some 0) with
  accessFlags := 1537
  interfaces := #[]
  cf := some (fileOf pool3 1 #[] #[] 1537 3 #[] #[])
  fields := #[]
  methods := #[]
  instanceTypes := #[]
  staticTypes := #[]
  resolved := Array.replicate 12 none
  statics := none }

def pool4 : Array CpInfo := pool [(2, .class_ 4), (1, u "java/lang/CharSequence"), (42, .class_ 48), (0, u "java/lang/CharSequence$1CodePointIterator"), (10, .class_ 60), (0, u "java/lang/CharSequence$1CharIterator"), (5, .class_ 67), (0, u "java/lang/Object")] 63

/-- java/lang/CharSequence -/
def k4 : Class := { plain "java/lang/CharSequence" (some 0) with
  accessFlags := 1537
  interfaces := #[]
  cf := some (fileOf pool4 2 #[.nestMembers #[47, 59]] #[] 1537 66 #[] #[])
  fields := #[]
  methods := #[]
  instanceTypes := #[]
  staticTypes := #[]
  resolved := Array.replicate 131 none
  statics := none }

def pool5 : Array CpInfo := pool [(1, .class_ 2), (0, u "java/lang/constant/Constable"), (0, .class_ 4), (0, u "java/lang/Object")] 6

/-- java/lang/constant/Constable -/
def k5 : Class := { plain "java/lang/constant/Constable" (some 0) with
  accessFlags := 1537
  interfaces := #[]
  cf := some (fileOf pool5 1 #[] #[] 1537 3 #[] #[])
  fields := #[]
  methods := #[]
  instanceTypes := #[]
  staticTypes := #[]
  resolved := Array.replicate 11 none
  statics := none }

def pool6 : Array CpInfo := pool [(1, .class_ 2), (0, u "java/lang/constant/ConstantDesc"), (0, .class_ 4), (0, u "java/lang/Object")] 32

/-- java/lang/constant/ConstantDesc -/
def k6 : Class := { plain "java/lang/constant/ConstantDesc" (some 0) with
  accessFlags := 1537
  interfaces := #[]
  cf := some (fileOf pool6 1 #[] #[] 1537 3 #[] #[])
  fields := #[]
  methods := #[]
  instanceTypes := #[]
  staticTypes := #[]
  resolved := Array.replicate 37 none
  statics := none }

def pool7 : Array CpInfo := pool [(1, .methodref 2 3), (0, .class_ 4), (0, .nameAndType 5 6), (0, u "java/lang/Object"), (0, u "<init>"), (0, u "()V"), (0, .string 8), (0, u ""), (0, .fieldref 10 11), (0, .class_ 12), (0, .nameAndType 13 14), (0, u "java/lang/String"), (0, u "value"), (0, u "[B"), (0, .fieldref 10 16), (0, .nameAndType 17 18), (0, u "coder"), (0, u "B"), (2, u "hash"), (0, u "I"), (2, u "hashIsZero"), (0, u "Z"), (0, .methodref 10 28), (0, .nameAndType 5 29), (0, u "([CIILjava/lang/Void;)V"), (8, .fieldref 10 39), (0, .nameAndType 40 26), (0, u "COMPACT_STRINGS"), (1, .class_ 44), (1, u "java/lang/StringUTF16"), (0, u "compress"), (1, .methodref 42 48), (0, .nameAndType 49 50), (0, u "coderFromArrayLen"), (0, u "([BI)B"), (56, .class_ 109), (1, u "java/lang/StringLatin1"), (67, .methodref 42 178), (0, .nameAndType 45 179), (0, u "([CII)[B"), (361, .methodref 107 542), (0, .nameAndType 543 544), (0, u "equals"), (0, u "([B[B)Z"), (28, u "(Ljava/lang/Object;)Z"), (1, .class_ 576), (0, u "java/lang/CharSequence"), (22, u "CASE_INSENSITIVE_ORDER"), (0, u "Ljava/util/Comparator;"), (409, u "([C)V"), (90, u "serialPersistentFields"), (0, u "[Ljava/io/ObjectStreamField;"), (0, .class_ 1104), (0, u "java/lang/String$CaseInsensitiveComparator"), (1, .class_ 1107), (0, u "java/io/Serializable"), (0, .class_ 1109), (0, u "java/lang/Comparable"), (0, .class_ 1111), (0, u "java/lang/constant/Constable"), (0, .class_ 1113), (0, u "java/lang/constant/ConstantDesc"), (2, u "serialVersionUID"), (0, u "J"), (3, u "REPL"), (0, u "C"), (2, u "LATIN1"), (1, u "UTF16")] 323

def k7m0 : Method := { name := "<init>", desc := "()V", sig := { parameters := [], returnType := none }, accessFlags := 1, code := none }
def k7c1 : Code := { maxStack := 5, maxLocals := 2, code := jdk_42_method_3_code, exceptionTable := #[], attributes := #[] }
def k7m1 : Method := { name := "<init>", desc := "([C)V", sig := { parameters := [(.array .char)], returnType := none }, accessFlags := 1, code := some k7c1 }
def k7c2 : Code := { maxStack := 2, maxLocals := 3, code := jdk_42_method_66_code, exceptionTable := #[], attributes := #[] }
def k7m2 : Method := { name := "equals", desc := "(Ljava/lang/Object;)Z", sig := { parameters := [(.object "java/lang/Object")], returnType := some .boolean }, accessFlags := 1, code := some k7c2 }
def k7c3 : Code := { maxStack := 4, maxLocals := 6, code := jdk_42_method_149_code, exceptionTable := #[], attributes := #[] }
def k7m3 : Method := { name := "<init>", desc := "([CIILjava/lang/Void;)V", sig := { parameters := [(.array .char), .int, .int, (.object "java/lang/Void")], returnType := none }, accessFlags := 2, code := some k7c3 }
/-- java/lang/String -/
def k7 : Class := { plain "java/lang/String" (some 0) with
  accessFlags := 49
  interfaces := #[2, 3, 4, 5, 6]
  cf := some (fileOf pool7 10 #[.nestMembers #[1103]] #[{ accessFlags := 1, nameIndex := 5, descriptorIndex := 6, attributes := #[] }, { accessFlags := 1, nameIndex := 5, descriptorIndex := 1010, attributes := #[] }, { accessFlags := 1, nameIndex := 543, descriptorIndex := 573, attributes := #[] }, { accessFlags := 2, nameIndex := 5, descriptorIndex := 29, attributes := #[] }] 49 2 #[1106, 1108, 575, 1110, 1112] #[{ accessFlags := 18, nameIndex := 13, descriptorIndex := 14, attributes := #[] }, { accessFlags := 18, nameIndex := 17, descriptorIndex := 18, attributes := #[] }, { accessFlags := 2, nameIndex := 21, descriptorIndex := 22, attributes := #[] }, { accessFlags := 2, nameIndex := 25, descriptorIndex := 26, attributes := #[] }, { accessFlags := 26, nameIndex := 1116, descriptorIndex := 1117, attributes := #[] }, { accessFlags := 24, nameIndex := 40, descriptorIndex := 26, attributes := #[] }, { accessFlags := 26, nameIndex := 1101, descriptorIndex := 1102, attributes := #[] }, { accessFlags := 26, nameIndex := 1121, descriptorIndex := 1122, attributes := #[] }, { accessFlags := 25, nameIndex := 599, descriptorIndex := 600, attributes := #[] }, { accessFlags := 24, nameIndex := 1125, descriptorIndex := 18, attributes := #[] }, { accessFlags := 24, nameIndex := 1127, descriptorIndex := 18, attributes := #[] }])
  fields := #[{ name := "value", type := (.array .byte), accessFlags := 18, slot := 0, constantValue := 0 }, { name := "coder", type := .byte, accessFlags := 18, slot := 1, constantValue := 0 }, { name := "hash", type := .int, accessFlags := 2, slot := 2, constantValue := 0 }, { name := "hashIsZero", type := .boolean, accessFlags := 2, slot := 3, constantValue := 0 }, { name := "serialVersionUID", type := .long, accessFlags := 26, slot := 0, constantValue := 0 }, { name := "COMPACT_STRINGS", type := .boolean, accessFlags := 24, slot := 1, constantValue := 0 }, { name := "serialPersistentFields", type := (.array (.object "java/io/ObjectStreamField")), accessFlags := 26, slot := 2, constantValue := 0 }, { name := "REPL", type := .char, accessFlags := 26, slot := 3, constantValue := 0 }, { name := "CASE_INSENSITIVE_ORDER", type := (.object "java/util/Comparator"), accessFlags := 25, slot := 4, constantValue := 0 }, { name := "LATIN1", type := .byte, accessFlags := 24, slot := 5, constantValue := 0 }, { name := "UTF16", type := .byte, accessFlags := 24, slot := 6, constantValue := 0 }]
  methods := #[k7m0, k7m1, k7m2, k7m3]
  instanceTypes := #[(.array .byte), .byte, .int, .boolean]
  staticTypes := #[.long, .boolean, (.array (.object "java/io/ObjectStreamField")), .char, (.object "java/util/Comparator"), .byte, .byte]
  resolved := Array.replicate 1451 none
  statics := some 0 }

def pool8 : Array CpInfo := pool [(6, .class_ 8), (1, u "java/lang/Object"), (0, u "<init>"), (0, u "()V"), (1, .class_ 14), (1, u "java/lang/StringUTF16"), (31, u "$assertionsDisabled"), (0, u "Z"), (13, u "HI_BYTE_SHIFT"), (0, u "I"), (2, u "LO_BYTE_SHIFT"), (49, .methodref 12 116), (0, .nameAndType 117 118), (0, u "compress"), (0, u "([CI[BII)I"), (3, u "([CII)[B"), (138, u "coderFromArrayLen"), (0, u "([BI)B"), (106, .class_ 371), (1, u "java/lang/StringUTF16$LinesSpliterator"), (58, u "MAX_LENGTH"), (196, .class_ 628), (0, u "java/lang/StringUTF16$CodePointsSpliterator"), (0, .class_ 630), (0, u "java/lang/StringUTF16$CharsSpliterator")] 4

def k8m0 : Method := { name := "<init>", desc := "()V", sig := { parameters := [], returnType := none }, accessFlags := 0, code := none }
def k8c1 : Code := { maxStack := 2, maxLocals := 2, code := jdk_52_method_15_code, exceptionTable := #[], attributes := #[] }
def k8m1 : Method := { name := "coderFromArrayLen", desc := "([BI)B", sig := { parameters := [(.array .byte), .int], returnType := some .byte }, accessFlags := 8, code := some k8c1 }
def k8c2 : Code := { maxStack := 5, maxLocals := 6, code := jdk_52_method_16_code, exceptionTable := #[], attributes := #[] }
def k8m2 : Method := { name := "compress", desc := "([CII)[B", sig := { parameters := [(.array .char), .int, .int], returnType := some (.array .byte) }, accessFlags := 9, code := some k8c2 }
def k8c3 : Code := { maxStack := 3, maxLocals := 7, code := jdk_52_method_21_code, exceptionTable := #[], attributes := #[] }
def k8m3 : Method := { name := "compress", desc := "([CI[BII)I", sig := { parameters := [(.array .char), .int, (.array .byte), .int, .int], returnType := some .int }, accessFlags := 9, code := some k8c3 }
/-- java/lang/StringUTF16 -/
def k8 : Class := { plain "java/lang/StringUTF16" (some 0) with
  accessFlags := 48
  interfaces := #[]
  cf := some (fileOf pool8 12 #[.nestMembers #[627, 629, 369]] #[{ accessFlags := 0, nameIndex := 9, descriptorIndex := 10, attributes := #[] }, { accessFlags := 8, nameIndex := 261, descriptorIndex := 262, attributes := #[] }, { accessFlags := 9, nameIndex := 117, descriptorIndex := 122, attributes := #[] }, { accessFlags := 9, nameIndex := 117, descriptorIndex := 118, attributes := #[] }] 48 6 #[] #[{ accessFlags := 26, nameIndex := 61, descriptorIndex := 62, attributes := #[] }, { accessFlags := 26, nameIndex := 65, descriptorIndex := 62, attributes := #[] }, { accessFlags := 24, nameIndex := 430, descriptorIndex := 62, attributes := #[] }, { accessFlags := 4120, nameIndex := 46, descriptorIndex := 47, attributes := #[] }])
  fields := #[{ name := "HI_BYTE_SHIFT", type := .int, accessFlags := 26, slot := 0, constantValue := 0 }, { name := "LO_BYTE_SHIFT", type := .int, accessFlags := 26, slot := 1, constantValue := 0 }, { name := "MAX_LENGTH", type := .int, accessFlags := 24, slot := 2, constantValue := 0 }, { name := "$assertionsDisabled", type := .boolean, accessFlags := 4120, slot := 3, constantValue := 0 }]
  methods := #[k8m0, k8m1, k8m2, k8m3]
  instanceTypes := #[]
  staticTypes := #[.int, .int, .int, .boolean]
  resolved := Array.replicate 635 none
  statics := none }

def pool9 : Array CpInfo := pool [(1, .methodref 2 3), (0, .class_ 4), (0, .nameAndType 5 6), (0, u "java/lang/Object"), (0, u "<init>"), (0, u "()V"), (0, .class_ 8), (0, u "java/lang/Record")] 13

def k9c0 : Code := { maxStack := 1, maxLocals := 1, code := jdk_30_method_1_code, exceptionTable := #[], attributes := #[] }
def k9m0 : Method := { name := "<init>", desc := "()V", sig := { parameters := [], returnType := none }, accessFlags := 4, code := some k9c0 }
/-- java/lang/Record -/
def k9 : Class := { plain "java/lang/Record" (some 0) with
  accessFlags := 1057
  interfaces := #[]
  cf := some (fileOf pool9 7 #[] #[{ accessFlags := 4, nameIndex := 5, descriptorIndex := 6, attributes := #[] }] 1057 2 #[] #[])
  fields := #[]
  methods := #[k9m0]
  instanceTypes := #[]
  staticTypes := #[]
  resolved := Array.replicate 22 none
  statics := none }

def pool10 : Array CpInfo := pool [(1, .methodref 2 3), (0, .class_ 4), (0, .nameAndType 5 6), (0, u "java/lang/Record"), (0, u "<init>"), (0, u "()V"), (0, .fieldref 8 9), (0, .class_ 10), (0, .nameAndType 11 12), (0, u "com/example/tranquility/tranquility/LocationPath$NameTest"), (0, u "namespace"), (0, u "Ljava/lang/String;"), (0, .fieldref 8 14), (0, .nameAndType 15 12), (0, u "localName"), (0, .methodref 17 18), (0, .class_ 19), (0, .nameAndType 20 21), (0, u "java/lang/String"), (0, u "equals"), (0, u "(Ljava/lang/Object;)Z"), (13, u "(Ljava/lang/String;Ljava/lang/String;)V"), (2, u "ANY"), (0, u "Lcom/example/tranquility/tranquility/LocationPath$NameTest;"), (3, u "matches"), (0, u "(Ljava/lang/String;Ljava/lang/String;)Z"), (7, .class_ 53), (0, u "com/example/tranquility/tranquility/LocationPath")] 20

def k10c0 : Code := { maxStack := 2, maxLocals := 3, code := prog_24_method_1_code, exceptionTable := #[], attributes := #[] }
def k10m0 : Method := { name := "<init>", desc := "(Ljava/lang/String;Ljava/lang/String;)V", sig := { parameters := [(.object "java/lang/String"), (.object "java/lang/String")], returnType := none }, accessFlags := 0, code := some k10c0 }
def k10c1 : Code := { maxStack := 2, maxLocals := 3, code := prog_24_method_2_code, exceptionTable := #[], attributes := #[] }
def k10m1 : Method := { name := "matches", desc := "(Ljava/lang/String;Ljava/lang/String;)Z", sig := { parameters := [(.object "java/lang/String"), (.object "java/lang/String")], returnType := some .boolean }, accessFlags := 0, code := some k10c1 }
/-- com/example/tranquility/tranquility/LocationPath$NameTest -/
def k10 : Class := { plain "com/example/tranquility/tranquility/LocationPath$NameTest" (some 9) with
  accessFlags := 48
  interfaces := #[]
  cf := some (fileOf pool10 8 #[.nestHost 52] #[{ accessFlags := 0, nameIndex := 5, descriptorIndex := 35, attributes := #[] }, { accessFlags := 0, nameIndex := 43, descriptorIndex := 44, attributes := #[] }] 48 2 #[] #[{ accessFlags := 18, nameIndex := 11, descriptorIndex := 12, attributes := #[] }, { accessFlags := 18, nameIndex := 15, descriptorIndex := 12, attributes := #[] }, { accessFlags := 24, nameIndex := 38, descriptorIndex := 39, attributes := #[] }])
  fields := #[{ name := "namespace", type := (.object "java/lang/String"), accessFlags := 18, slot := 0, constantValue := 0 }, { name := "localName", type := (.object "java/lang/String"), accessFlags := 18, slot := 1, constantValue := 0 }, { name := "ANY", type := (.object "com/example/tranquility/tranquility/LocationPath$NameTest"), accessFlags := 24, slot := 0, constantValue := 0 }]
  methods := #[k10m0, k10m1]
  instanceTypes := #[(.object "java/lang/String"), (.object "java/lang/String")]
  staticTypes := #[(.object "com/example/tranquility/tranquility/LocationPath$NameTest")]
  resolved := Array.replicate 74 none
  statics := none }

def pool11 : Array CpInfo := pool [(4, .class_ 6), (1, u "java/lang/Object"), (0, u "<init>"), (0, u "()V"), (5, .class_ 16), (1, u "java/lang/StringLatin1"), (104, u "$assertionsDisabled"), (0, u "Z"), (98, .class_ 223), (1, u "java/lang/StringLatin1$LinesSpliterator"), (57, u "equals"), (0, u "([B[B)Z"), (107, .class_ 391), (0, u "java/lang/StringLatin1$CharsSpliterator")] 3

def k11m0 : Method := { name := "<init>", desc := "()V", sig := { parameters := [], returnType := none }, accessFlags := 0, code := none }
def k11c1 : Code := { maxStack := 3, maxLocals := 3, code := jdk_43_method_13_code, exceptionTable := #[], attributes := #[] }
def k11m1 : Method := { name := "equals", desc := "([B[B)Z", sig := { parameters := [(.array .byte), (.array .byte)], returnType := some .boolean }, accessFlags := 9, code := some k11c1 }
/-- java/lang/StringLatin1 -/
def k11 : Class := { plain "java/lang/StringLatin1" (some 0) with
  accessFlags := 48
  interfaces := #[]
  cf := some (fileOf pool11 14 #[.nestMembers #[390, 221]] #[{ accessFlags := 0, nameIndex := 7, descriptorIndex := 8, attributes := #[] }, { accessFlags := 9, nameIndex := 281, descriptorIndex := 282, attributes := #[] }] 48 4 #[] #[{ accessFlags := 4120, nameIndex := 121, descriptorIndex := 122, attributes := #[] }])
  fields := #[{ name := "$assertionsDisabled", type := .boolean, accessFlags := 4120, slot := 0, constantValue := 0 }]
  methods := #[k11m0, k11m1]
  instanceTypes := #[]
  staticTypes := #[.boolean]
  resolved := Array.replicate 395 none
  statics := none }

def pool12 : Array CpInfo := pool [(2, .class_ 4), (1, u "java/lang/Object"), (0, u "<init>"), (0, u "()V"), (17, .class_ 26), (1, u "jdk/internal/util/Preconditions"), (28, .class_ 56), (0, u "jdk/internal/util/Preconditions$4"), (57, .class_ 115), (0, u "jdk/internal/util/Preconditions$1"), (7, u "SIOOBE_FORMATTER"), (0, u "Ljava/util/function/BiFunction;"), (0, .class_ 126), (0, u "jdk/internal/util/Preconditions$2"), (3, u "AIOOBE_FORMATTER"), (0, .class_ 132), (0, u "jdk/internal/util/Preconditions$3"), (3, u "IOOBE_FORMATTER")] 57

def k12m0 : Method := { name := "<init>", desc := "()V", sig := { parameters := [], returnType := none }, accessFlags := 1, code := none }
/-- jdk/internal/util/Preconditions -/
def k12 : Class := { plain "jdk/internal/util/Preconditions" (some 0) with
  accessFlags := 33
  interfaces := #[]
  cf := some (fileOf pool12 24 #[.nestMembers #[55, 131, 125, 114]] #[{ accessFlags := 1, nameIndex := 5, descriptorIndex := 6, attributes := #[] }] 33 2 #[] #[{ accessFlags := 25, nameIndex := 123, descriptorIndex := 124, attributes := #[] }, { accessFlags := 25, nameIndex := 130, descriptorIndex := 124, attributes := #[] }, { accessFlags := 25, nameIndex := 136, descriptorIndex := 124, attributes := #[] }])
  fields := #[{ name := "SIOOBE_FORMATTER", type := (.object "java/util/function/BiFunction"), accessFlags := 25, slot := 0, constantValue := 0 }, { name := "AIOOBE_FORMATTER", type := (.object "java/util/function/BiFunction"), accessFlags := 25, slot := 1, constantValue := 0 }, { name := "IOOBE_FORMATTER", type := (.object "java/util/function/BiFunction"), accessFlags := 25, slot := 2, constantValue := 0 }]
  methods := #[k12m0]
  instanceTypes := #[]
  staticTypes := #[(.object "java/util/function/BiFunction"), (.object "java/util/function/BiFunction"), (.object "java/util/function/BiFunction")]
  resolved := Array.replicate 194 none
  statics := some 1 }

def pool13 : Array CpInfo := pool [(9, u "<init>"), (6, .class_ 18), (1, u "java/lang/Object"), (0, u "()V"), (1, .class_ 23), (1, u "jdk/internal/util/ArraysSupport"), (0, u "LOG2_ARRAY_LONG_INDEX_SCALE"), (0, u "I"), (2, u "U"), (0, u "Ljdk/internal/misc/Unsafe;"), (8, u "BIG_ENDIAN"), (0, u "Z"), (8, u "LOG2_BYTE_BIT_SIZE"), (4, u "LOG2_ARRAY_INT_INDEX_SCALE"), (54, u "JLA"), (0, u "Ljdk/internal/access/JavaLangAccess;"), (11, u "LOG2_ARRAY_BOOLEAN_INDEX_SCALE"), (9, u "LOG2_ARRAY_BYTE_INDEX_SCALE"), (5, u "LOG2_ARRAY_CHAR_INDEX_SCALE"), (5, u "LOG2_ARRAY_SHORT_INDEX_SCALE"), (18, u "LOG2_ARRAY_FLOAT_INDEX_SCALE"), (24, u "LOG2_ARRAY_DOUBLE_INDEX_SCALE"), (89, u "T_BOOLEAN"), (2, u "T_CHAR"), (1, u "T_FLOAT"), (1, u "T_DOUBLE"), (1, u "T_BYTE"), (1, u "T_SHORT"), (1, u "T_INT"), (1, u "T_LONG"), (1, u "SOFT_MAX_ARRAY_LENGTH")] 83

def k13m0 : Method := { name := "<init>", desc := "()V", sig := { parameters := [], returnType := none }, accessFlags := 2, code := none }
/-- jdk/internal/util/ArraysSupport -/
def k13 : Class := { plain "jdk/internal/util/ArraysSupport" (some 0) with
  accessFlags := 33
  interfaces := #[]
  cf := some (fileOf pool13 21 #[] #[{ accessFlags := 2, nameIndex := 9, descriptorIndex := 19, attributes := #[] }] 33 16 #[] #[{ accessFlags := 24, nameIndex := 28, descriptorIndex := 29, attributes := #[] }, { accessFlags := 26, nameIndex := 38, descriptorIndex := 39, attributes := #[] }, { accessFlags := 25, nameIndex := 121, descriptorIndex := 25, attributes := #[] }, { accessFlags := 25, nameIndex := 131, descriptorIndex := 25, attributes := #[] }, { accessFlags := 25, nameIndex := 137, descriptorIndex := 25, attributes := #[] }, { accessFlags := 25, nameIndex := 143, descriptorIndex := 25, attributes := #[] }, { accessFlags := 25, nameIndex := 53, descriptorIndex := 25, attributes := #[] }, { accessFlags := 25, nameIndex := 24, descriptorIndex := 25, attributes := #[] }, { accessFlags := 25, nameIndex := 162, descriptorIndex := 25, attributes := #[] }, { accessFlags := 25, nameIndex := 187, descriptorIndex := 25, attributes := #[] }, { accessFlags := 26, nameIndex := 48, descriptorIndex := 25, attributes := #[] }, { accessFlags := 25, nameIndex := 277, descriptorIndex := 25, attributes := #[] }, { accessFlags := 25, nameIndex := 280, descriptorIndex := 25, attributes := #[] }, { accessFlags := 25, nameIndex := 282, descriptorIndex := 25, attributes := #[] }, { accessFlags := 25, nameIndex := 284, descriptorIndex := 25, attributes := #[] }, { accessFlags := 25, nameIndex := 286, descriptorIndex := 25, attributes := #[] }, { accessFlags := 25, nameIndex := 288, descriptorIndex := 25, attributes := #[] }, { accessFlags := 25, nameIndex := 290, descriptorIndex := 25, attributes := #[] }, { accessFlags := 25, nameIndex := 292, descriptorIndex := 25, attributes := #[] }, { accessFlags := 26, nameIndex := 108, descriptorIndex := 109, attributes := #[] }, { accessFlags := 25, nameIndex := 294, descriptorIndex := 25, attributes := #[] }])
  fields := #[{ name := "U", type := (.object "jdk/internal/misc/Unsafe"), accessFlags := 24, slot := 0, constantValue := 0 }, { name := "BIG_ENDIAN", type := .boolean, accessFlags := 26, slot := 1, constantValue := 0 }, { name := "LOG2_ARRAY_BOOLEAN_INDEX_SCALE", type := .int, accessFlags := 25, slot := 2, constantValue := 0 }, { name := "LOG2_ARRAY_BYTE_INDEX_SCALE", type := .int, accessFlags := 25, slot := 3, constantValue := 0 }, { name := "LOG2_ARRAY_CHAR_INDEX_SCALE", type := .int, accessFlags := 25, slot := 4, constantValue := 0 }, { name := "LOG2_ARRAY_SHORT_INDEX_SCALE", type := .int, accessFlags := 25, slot := 5, constantValue := 0 }, { name := "LOG2_ARRAY_INT_INDEX_SCALE", type := .int, accessFlags := 25, slot := 6, constantValue := 0 }, { name := "LOG2_ARRAY_LONG_INDEX_SCALE", type := .int, accessFlags := 25, slot := 7, constantValue := 0 }, { name := "LOG2_ARRAY_FLOAT_INDEX_SCALE", type := .int, accessFlags := 25, slot := 8, constantValue := 0 }, { name := "LOG2_ARRAY_DOUBLE_INDEX_SCALE", type := .int, accessFlags := 25, slot := 9, constantValue := 0 }, { name := "LOG2_BYTE_BIT_SIZE", type := .int, accessFlags := 26, slot := 10, constantValue := 0 }, { name := "T_BOOLEAN", type := .int, accessFlags := 25, slot := 11, constantValue := 0 }, { name := "T_CHAR", type := .int, accessFlags := 25, slot := 12, constantValue := 0 }, { name := "T_FLOAT", type := .int, accessFlags := 25, slot := 13, constantValue := 0 }, { name := "T_DOUBLE", type := .int, accessFlags := 25, slot := 14, constantValue := 0 }, { name := "T_BYTE", type := .int, accessFlags := 25, slot := 15, constantValue := 0 }, { name := "T_SHORT", type := .int, accessFlags := 25, slot := 16, constantValue := 0 }, { name := "T_INT", type := .int, accessFlags := 25, slot := 17, constantValue := 0 }, { name := "T_LONG", type := .int, accessFlags := 25, slot := 18, constantValue := 0 }, { name := "JLA", type := (.object "jdk/internal/access/JavaLangAccess"), accessFlags := 26, slot := 19, constantValue := 0 }, { name := "SOFT_MAX_ARRAY_LENGTH", type := .int, accessFlags := 25, slot := 20, constantValue := 0 }]
  methods := #[k13m0]
  instanceTypes := #[]
  staticTypes := #[(.object "jdk/internal/misc/Unsafe"), .boolean, .int, .int, .int, .int, .int, .int, .int, .int, .int, .int, .int, .int, .int, .int, .int, .int, .int, (.object "jdk/internal/access/JavaLangAccess"), .int]
  resolved := Array.replicate 378 none
  statics := none }

def pool14 : Array CpInfo := pool [(1, u "java/lang/Cloneable"), (0, .class_ 1), (0, u "java/lang/Object"), (0, .class_ 3)] 3

/-- java/lang/Cloneable -/
def k14 : Class := { plain "java/lang/Cloneable" (some 0) with
  accessFlags := 1537
  interfaces := #[]
  cf := some (fileOf pool14 2 #[] #[] 1537 4 #[] #[])
  fields := #[]
  methods := #[]
  instanceTypes := #[]
  staticTypes := #[]
  resolved := Array.replicate 8 none
  statics := none }

/-- the primitive byte -/
def k15 : Class := { plain "byte" none with kind := .primitive 'B', accessFlags := 0x411 }
/-- [B -/
def k16 : Class := { plain "[B" (some 0) with kind := .array 15 .byte, interfaces := #[14, 2], accessFlags := 1041 }

/-- the primitive char -/
def k17 : Class := { plain "char" none with kind := .primitive 'C', accessFlags := 0x411 }
/-- [C -/
def k18 : Class := { plain "[C" (some 0) with kind := .array 17 .char, interfaces := #[14, 2], accessFlags := 1041 }

/-- the primitive int -/
def k19 : Class := { plain "int" none with kind := .primitive 'I', accessFlags := 0x411 }
/-- [I -/
def k20 : Class := { plain "[I" (some 0) with kind := .array 19 .int, interfaces := #[14, 2], accessFlags := 1041 }

def heap : Heap := #[{ cls := 7, slots := #[.long 0, .int 1, .null, .int 0, .null, .int 0, .int 0], vm := .statics 7 },
  { cls := 12, slots := #[.null, .null, .null], vm := .statics 12 }]
def classes : Array Class := #[k0, k1, k2, k3, k4, k5, k6, k7, k8, k9, k10, k11, k12, k13, k14, k15, k16, k17, k18, k19, k20]
def interned : List (Array UInt16 × Addr) := []
def slotsUsed : Nat := 10
def theMethod : MethodId := ⟨1, 1⟩
def args0 : Array Value := #[.int 5, .int 97, .int 98, .int 99]
def aboutOver (below : List Frame) : State where
  vm := { classes := classes, interned := interned.toArray }
  heap := heap
  slotsUsed := slotsUsed
  threads := #[{ frames := .invoking theMethod args0 :: below }]
def below0 : List Frame := [.native { method := ⟨0, 0⟩, args := #[] }]
def about1 : State := aboutOver below0
def p0 : Program := .bare "" "" ""
def e0 : Env := launch0.env 0 0 0
theorem w_frames : about1.frames = Frame.invoking theMethod args0 :: below0 := rfl
set_option maxRecDepth 65536 in
theorem w_args : argsFit about1.vm theMethod args0 = true := by decide +kernel
set_option maxRecDepth 65536 in
theorem w_heap : heapFits about1 = true := by decide +kernel
set_option maxRecDepth 65536 in
theorem w_runnable : about1.curStatus? = some .runnable := by decide +kernel
set_option maxRecDepth 65536 in
theorem w_alone : about1.alone = true := by decide +kernel
set_option maxRecDepth 65536 in
theorem w_named : about1.methodNamed? x = some theMethod := by decide +kernel
set_option maxRecDepth 65536 in
theorem w_hears : about1.hears theMethod below0 = true := by decide +kernel
set_option maxRecDepth 65536 in
theorem w_ripe : about1.ripe theMethod args0 below0 = true := by decide +kernel
theorem w_running : about1.status = .running := rfl
set_option maxRecDepth 65536 in
theorem w_room : about1.hasRoom e0.platform room_1 = true :=
  launch0.hasRoom_least _ room_1 (by decide +kernel) (by decide +kernel) (by decide +kernel) (by decide +kernel) (by decide +kernel) (by decide +kernel)
theorem allAtoms_all (ts : List Jvm.Cond) (a : Array Jvm.Value) (st : Jvm.State) : (allAtoms ts).before a st = ts.all (fun c => c.before a st) := by
  induction ts with
  | nil => rfl
  | cons c t ih =>
    show (Jvm.Cond.and c (allAtoms t)).before a st = _
    rw [Jvm.Cond.before_and, ih, List.all_cons]
def words1 : List Jvm.Cond := Jvm.Cond.code x code maxLocals ret :: tables_1
/-- a 'code' word, met by the world's own term for the bytes: nothing is compared byte by byte -/
theorem code_word {y : MethodName} {bytes : ByteArray} {mx : Nat} {rt : Option FieldType} {a : Array Value} {s : State} {m : MethodId} {meth : Method} {c : Code} (h1 : s.methodNamed? y = some m) (h2 : s.vm.method? m = some meth) (h3 : meth.code = some c) (h4 : c.code = bytes)
    (h5 : (c.maxLocals == mx && c.exceptionTable.isEmpty && decide (c.maxStack ≤ mostOperands) && decide (meth.sig.returnType = rt) && !meth.locks && decide (parseMethodDescriptor y.desc = some meth.sig)) = true) : (Jvm.Cond.code y bytes mx rt).before a s = true := by
  simp only [Bool.and_eq_true, beq_iff_eq, Bool.not_eq_true', decide_eq_true_eq] at h5
  obtain ⟨⟨⟨⟨⟨g1, g2⟩, g3⟩, g4⟩, g5⟩, g6⟩ := h5
  simp [Cond.before, Cond.holds, Cond.value, h1, h2, h3, h4, g1, g2, g3, g4, g5, g6]
def isCode : Jvm.Cond → Bool
  | .code _ _ _ _ => true
  | _ => false
theorem all_split {L : List Jvm.Cond} {P : Jvm.Cond → Bool} (h1 : L.all (fun c => isCode c || P c) = true) (h2 : ∀ c ∈ L.filter isCode, P c = true) : L.all P = true := by
  refine List.all_eq_true.mpr fun c hc => ?_
  have h := List.all_eq_true.mp h1 c hc
  rcases Bool.eq_false_or_eq_true (isCode c) with hi | hi
  · exact h2 c (List.mem_filter.mpr ⟨hc, hi⟩)
  · simpa [hi] using h
set_option maxRecDepth 65536 in
theorem w_c0 : (Jvm.Cond.code x code maxLocals ret).before args0 about1 = true := code_word (m := ⟨1, 1⟩) (meth := k1m1) (c := k1c1) (by decide +kernel) rfl rfl rfl (by decide +kernel)
set_option maxRecDepth 65536 in
theorem w_c1 : (Jvm.Cond.code ({ cls := "com/example/tranquility/tranquility/NameTestMatchesPinLaw", name := "make", desc := "(ICC)Ljava/lang/String;" } : Jvm.MethodName) method_3_code (4 : Nat) (Option.some (Jvm.ClassFile.FieldType.object "java/lang/String"))).before args0 about1 = true := code_word (m := ⟨1, 2⟩) (meth := k1m2) (c := k1c2) (by decide +kernel) rfl rfl rfl (by decide +kernel)
set_option maxRecDepth 65536 in
theorem w_c2 : (Jvm.Cond.code ({ cls := "java/lang/String", name := "<init>", desc := "([C)V" } : Jvm.MethodName) jdk_42_method_3_code (2 : Nat) (Option.none : Option Jvm.ClassFile.FieldType)).before args0 about1 = true := code_word (m := ⟨7, 1⟩) (meth := k7m1) (c := k7c1) (by decide +kernel) rfl rfl rfl (by decide +kernel)
set_option maxRecDepth 65536 in
theorem w_c3 : (Jvm.Cond.code ({ cls := "java/lang/String", name := "<init>", desc := "([CIILjava/lang/Void;)V" } : Jvm.MethodName) jdk_42_method_149_code (6 : Nat) (Option.none : Option Jvm.ClassFile.FieldType)).before args0 about1 = true := code_word (m := ⟨7, 3⟩) (meth := k7m3) (c := k7c3) (by decide +kernel) rfl rfl rfl (by decide +kernel)
set_option maxRecDepth 65536 in
theorem w_c4 : (Jvm.Cond.code ({ cls := "java/lang/Object", name := "<init>", desc := "()V" } : Jvm.MethodName) object_method_1_code (1 : Nat) (Option.none : Option Jvm.ClassFile.FieldType)).before args0 about1 = true := code_word (m := ⟨0, 0⟩) (meth := k0m0) (c := k0c0) (by decide +kernel) rfl rfl rfl (by decide +kernel)
set_option maxRecDepth 65536 in
theorem w_c5 : (Jvm.Cond.code ({ cls := "java/lang/StringUTF16", name := "compress", desc := "([CII)[B" } : Jvm.MethodName) jdk_52_method_16_code (6 : Nat) (Option.some (Jvm.ClassFile.FieldType.array Jvm.ClassFile.FieldType.byte))).before args0 about1 = true := code_word (m := ⟨8, 2⟩) (meth := k8m2) (c := k8c2) (by decide +kernel) rfl rfl rfl (by decide +kernel)
set_option maxRecDepth 65536 in
theorem w_c6 : (Jvm.Cond.code ({ cls := "java/lang/StringUTF16", name := "compress", desc := "([CI[BII)I" } : Jvm.MethodName) jdk_52_method_21_code (7 : Nat) (Option.some Jvm.ClassFile.FieldType.int)).before args0 about1 = true := code_word (m := ⟨8, 3⟩) (meth := k8m3) (c := k8c3) (by decide +kernel) rfl rfl rfl (by decide +kernel)
set_option maxRecDepth 65536 in
theorem w_c7 : (Jvm.Cond.code ({ cls := "java/lang/StringUTF16", name := "coderFromArrayLen", desc := "([BI)B" } : Jvm.MethodName) jdk_52_method_15_code (2 : Nat) (Option.some Jvm.ClassFile.FieldType.byte)).before args0 about1 = true := code_word (m := ⟨8, 1⟩) (meth := k8m1) (c := k8c1) (by decide +kernel) rfl rfl rfl (by decide +kernel)
set_option maxRecDepth 65536 in
theorem w_c8 : (Jvm.Cond.code ({ cls := "com/example/tranquility/tranquility/LocationPath$NameTest", name := "<init>", desc := "(Ljava/lang/String;Ljava/lang/String;)V" } : Jvm.MethodName) prog_24_method_1_code (3 : Nat) (Option.none : Option Jvm.ClassFile.FieldType)).before args0 about1 = true := code_word (m := ⟨10, 0⟩) (meth := k10m0) (c := k10c0) (by decide +kernel) rfl rfl rfl (by decide +kernel)
set_option maxRecDepth 65536 in
theorem w_c9 : (Jvm.Cond.code ({ cls := "java/lang/Record", name := "<init>", desc := "()V" } : Jvm.MethodName) jdk_30_method_1_code (1 : Nat) (Option.none : Option Jvm.ClassFile.FieldType)).before args0 about1 = true := code_word (m := ⟨9, 0⟩) (meth := k9m0) (c := k9c0) (by decide +kernel) rfl rfl rfl (by decide +kernel)
set_option maxRecDepth 65536 in
theorem w_c10 : (Jvm.Cond.code ({ cls := "com/example/tranquility/tranquility/LocationPath$NameTest", name := "matches", desc := "(Ljava/lang/String;Ljava/lang/String;)Z" } : Jvm.MethodName) prog_24_method_2_code (3 : Nat) (Option.some Jvm.ClassFile.FieldType.boolean)).before args0 about1 = true := code_word (m := ⟨10, 1⟩) (meth := k10m1) (c := k10c1) (by decide +kernel) rfl rfl rfl (by decide +kernel)
set_option maxRecDepth 65536 in
theorem w_c11 : (Jvm.Cond.code ({ cls := "java/lang/String", name := "equals", desc := "(Ljava/lang/Object;)Z" } : Jvm.MethodName) jdk_42_method_66_code (3 : Nat) (Option.some Jvm.ClassFile.FieldType.boolean)).before args0 about1 = true := code_word (m := ⟨7, 2⟩) (meth := k7m2) (c := k7c2) (by decide +kernel) rfl rfl rfl (by decide +kernel)
set_option maxRecDepth 65536 in
theorem w_c12 : (Jvm.Cond.code ({ cls := "java/lang/StringLatin1", name := "equals", desc := "([B[B)Z" } : Jvm.MethodName) jdk_43_method_13_code (3 : Nat) (Option.some Jvm.ClassFile.FieldType.boolean)).before args0 about1 = true := code_word (m := ⟨11, 1⟩) (meth := k11m1) (c := k11c1) (by decide +kernel) rfl rfl rfl (by decide +kernel)
set_option maxRecDepth 65536 in
theorem w_c13 : (Jvm.Cond.code ({ cls := "com/example/tranquility/tranquility/NameTestMatchesPinLaw", name := "same", desc := "(ICCICC)Z" } : Jvm.MethodName) method_4_code (6 : Nat) (Option.some Jvm.ClassFile.FieldType.boolean)).before args0 about1 = true := code_word (m := ⟨1, 3⟩) (meth := k1m3) (c := k1c3) (by decide +kernel) rfl rfl rfl (by decide +kernel)
def codes1 : List Jvm.Cond := [Jvm.Cond.code x code maxLocals ret, Jvm.Cond.code ({ cls := "com/example/tranquility/tranquility/NameTestMatchesPinLaw", name := "make", desc := "(ICC)Ljava/lang/String;" } : Jvm.MethodName) method_3_code (4 : Nat) (Option.some (Jvm.ClassFile.FieldType.object "java/lang/String")), Jvm.Cond.code ({ cls := "java/lang/String", name := "<init>", desc := "([C)V" } : Jvm.MethodName) jdk_42_method_3_code (2 : Nat) (Option.none : Option Jvm.ClassFile.FieldType), Jvm.Cond.code ({ cls := "java/lang/String", name := "<init>", desc := "([CIILjava/lang/Void;)V" } : Jvm.MethodName) jdk_42_method_149_code (6 : Nat) (Option.none : Option Jvm.ClassFile.FieldType), Jvm.Cond.code ({ cls := "java/lang/Object", name := "<init>", desc := "()V" } : Jvm.MethodName) object_method_1_code (1 : Nat) (Option.none : Option Jvm.ClassFile.FieldType), Jvm.Cond.code ({ cls := "java/lang/StringUTF16", name := "compress", desc := "([CII)[B" } : Jvm.MethodName) jdk_52_method_16_code (6 : Nat) (Option.some (Jvm.ClassFile.FieldType.array Jvm.ClassFile.FieldType.byte)), Jvm.Cond.code ({ cls := "java/lang/StringUTF16", name := "compress", desc := "([CI[BII)I" } : Jvm.MethodName) jdk_52_method_21_code (7 : Nat) (Option.some Jvm.ClassFile.FieldType.int), Jvm.Cond.code ({ cls := "java/lang/StringUTF16", name := "coderFromArrayLen", desc := "([BI)B" } : Jvm.MethodName) jdk_52_method_15_code (2 : Nat) (Option.some Jvm.ClassFile.FieldType.byte), Jvm.Cond.code ({ cls := "com/example/tranquility/tranquility/LocationPath$NameTest", name := "<init>", desc := "(Ljava/lang/String;Ljava/lang/String;)V" } : Jvm.MethodName) prog_24_method_1_code (3 : Nat) (Option.none : Option Jvm.ClassFile.FieldType), Jvm.Cond.code ({ cls := "java/lang/Record", name := "<init>", desc := "()V" } : Jvm.MethodName) jdk_30_method_1_code (1 : Nat) (Option.none : Option Jvm.ClassFile.FieldType), Jvm.Cond.code ({ cls := "com/example/tranquility/tranquility/LocationPath$NameTest", name := "matches", desc := "(Ljava/lang/String;Ljava/lang/String;)Z" } : Jvm.MethodName) prog_24_method_2_code (3 : Nat) (Option.some Jvm.ClassFile.FieldType.boolean), Jvm.Cond.code ({ cls := "java/lang/String", name := "equals", desc := "(Ljava/lang/Object;)Z" } : Jvm.MethodName) jdk_42_method_66_code (3 : Nat) (Option.some Jvm.ClassFile.FieldType.boolean), Jvm.Cond.code ({ cls := "java/lang/StringLatin1", name := "equals", desc := "([B[B)Z" } : Jvm.MethodName) jdk_43_method_13_code (3 : Nat) (Option.some Jvm.ClassFile.FieldType.boolean), Jvm.Cond.code ({ cls := "com/example/tranquility/tranquility/NameTestMatchesPinLaw", name := "same", desc := "(ICCICC)Z" } : Jvm.MethodName) method_4_code (6 : Nat) (Option.some Jvm.ClassFile.FieldType.boolean)]
set_option maxRecDepth 65536 in
theorem codes_eq : words1.filter isCode = codes1 := rfl
theorem w_codes : ∀ c ∈ words1.filter isCode, c.before args0 about1 = true := by
  rw [codes_eq]
  intro c hc
  simp only [codes1, List.mem_cons, List.not_mem_nil, or_false] at hc
  rcases hc with rfl | rfl | rfl | rfl | rfl | rfl | rfl | rfl | rfl | rfl | rfl | rfl | rfl | rfl
  · exact w_c0
  · exact w_c1
  · exact w_c2
  · exact w_c3
  · exact w_c4
  · exact w_c5
  · exact w_c6
  · exact w_c7
  · exact w_c8
  · exact w_c9
  · exact w_c10
  · exact w_c11
  · exact w_c12
  · exact w_c13
set_option maxRecDepth 65536 in
theorem w_t1 : (words1.take 24).all (fun c => isCode c || c.before args0 about1) = true := by decide +kernel
set_option maxRecDepth 65536 in
theorem w_t2 : ((words1.drop 24).take 24).all (fun c => isCode c || c.before args0 about1) = true := by decide +kernel
set_option maxRecDepth 65536 in
theorem w_t3 : ((words1.drop 24).drop 24).all (fun c => isCode c || c.before args0 about1) = true := by decide +kernel
theorem w_tables : (allAtoms (Jvm.Cond.code x code maxLocals ret :: tables_1)).before args0 about1 = true := by
  rw [allAtoms_all]
  show words1.all (fun c => c.before args0 about1) = true
  refine all_split ?_ w_codes
  rw [← List.take_append_drop 24 words1, List.all_append, w_t1, ← List.take_append_drop 24 (words1.drop 24), List.all_append, w_t2, w_t3]
  rfl
set_option maxRecDepth 65536 in
theorem w_rest : rest_1_c.before args0 about1 = true := by decide +kernel
set_option maxRecDepth 65536 in
theorem w_case : (Jvm.Cond.and given_1 narrow_1).before args0 about1 = true := by decide +kernel
set_option maxRecDepth 65536 in
theorem w_consts : constsHeld consts_1 about1 := Jvm.Lit.constsHeldB_iff.mp (by decide +kernel)
theorem w_applies : (headSpec (Jvm.Cond.code x code maxLocals ret :: tables_1) room_1).applies x e0.platform about1 = true :=
  (Spec.applies_iff w_frames).mpr ⟨w_running, w_runnable, w_alone, w_named, w_hears, w_ripe, w_room, w_tables⟩
theorem atStart : AtStart classFile x code maxLocals ret World_1 tables_1 room_1 Calls_1 rest_1 Pre_1 launch0 p0 e0 about1 theMethod args0 below0 :=
  ⟨lists_1, trivial, launch0.admits_env _ _ _, launch0.least_env, fairChoices_fair.cas, fairChoices_fair.clock, w_frames, w_args, w_heap, w_applies, ⟨w_consts, trivial⟩, w_rest, w_case⟩
end start1
theorem witness_1 : WitnessClaimed_1 := ⟨start1.p0, start1.e0, start1.about1, start1.theMethod, start1.args0, start1.below0, start1.atStart⟩
end Jvm.Pilot.@@N@@
