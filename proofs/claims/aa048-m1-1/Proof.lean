import JvmDerived
import JvmDerived.Pilot.@@N@@Statement
import JvmDerived.Pilot.@@N@@Code
set_option linter.unusedVariables false
set_option linter.unusedSimpArgs false
namespace Jvm.Pilot.@@N@@
open Jvm Jvm.ClassFile Sem Op Lib Jvm.Free Jvm.Stand Jvm.LawKit Jvm.RoadKit Bundle Jvm.Pilot.@@N@@.Jvm.D
/-! own kit: the goal of a walk as one word, and how a step and a return change it -/
theorem wq {Z : State} {a0 : Array Value} (hw : ∀ d ∈ tables_1, d.before a0 Z = true) (i : Nat) {d : Jvm.Cond} (h : tables_1[i]? = some d) : d.before a0 Z = true := hw d (List.mem_of_getElem? h)
def Gl (tb : Tables) (e : Env) (below : List Frame) (s : State) (Q : Option Value → Heap → List Loc → Prop) (ce sl : Nat) (A : State) : Prop :=
  ∃ s₂ o, Steps tb e below A s₂ ∧ s₂.status = .running ∧ Ended s₂ below o ∧ ∃ v L, o = .returned v ∧ Q v s₂.heap L ∧ FrameEnd s o s₂ L ce sl
theorem Gl.pre {tb : Tables} {e : Env} {below : List Frame} {s : State} {Q : Option Value → Heap → List Loc → Prop} {ce sl : Nat} {A B : State} (h : ∀ t, Steps tb e below B t → Steps tb e below A t) (g : Gl tb e below s Q ce sl B) : Gl tb e below s Q ce sl A := by
  obtain ⟨s2, o, h1, r⟩ := g
  exact ⟨s2, o, h _ h1, r⟩
theorem Gl.out {p : Program} {l : Launch} {e : Env} {R : Room} {s : State} {m : MethodId} {args : Array Value} {below : List Frame} {meth : Method} {c : Code} {T : State} {locs : List Loc} {cells slots : Nat}
    (X : Stand p l e R s m args below meth c T locs cells slots) {Q : Option Value → Heap → List Loc → Prop} {ce sl : Nat} {g : JFrame} {v : Option Value} (hv : meth.sig.returnType = none → v = none) (hlk : meth.locks = false)
    (k : ∀ fs, (∀ (f : JFrame) (acts : List Action), f.method = m → f.locked = none → f.entered = [] → (doReturn e (T.setTop f) acts v).1 = T.setFrames fs) → Steps p.tables e below (T.setTop g) (T.setFrames fs))
    (hq : Q v T.heap locs) (h1 : cells ≤ ce) (h2 : slots ≤ sl) : Gl p.tables e below s Q ce sl (T.setTop g) := by
  obtain ⟨fs, hr, hrun, hended, hW, hsame⟩ := X.leave (v := v) hv hlk
  exact ⟨_, _, k fs hr, hrun, hended, v, locs, rfl, hq, ⟨v, rfl⟩, hW, hsame.mono h1 h2⟩
theorem own_reb {p : Program} {l : Launch} {e : Env} {R : Room} {s : State} {m : MethodId} {args : Array Value} {below : List Frame} {meth : Method} {c : Code} {T : State} {L L' : List Loc} {k k' n n' : Nat} (X : Stand p l e R s m args below meth c T L k n) (h1 : L = L') (h2 : k = k') (h3 : n = n') : Stand p l e R s m args below meth c T L' k' n' := by
  subst h1 h2 h3
  exact X
def bI (b : Bool) : Int32 := if b then 1 else 0
theorem bI_t {b : Bool} (h : b = true) : ¬ bI b = (0 : Int32) := by subst h; decide
theorem bI_f {b : Bool} (h : b = false) : bI b = (0 : Int32) := by subst h; rfl
theorem bI_nar (b : Bool) : nar .boolean (bI b) = bI b := by cases b <;> rfl
theorem bI_inj {a b : Bool} : bI a = bI b ↔ a = b := by cases a <;> cases b <;> decide
theorem own_narO {v : Value} {C : String} (h : v.isRef = true) : narrow (.object C) v = v := by rcases ref_cases h with rfl | ⟨_, rfl⟩ <;> rfl
theorem own_fitO {v : Value} {C : String} (h : v.isRef = true) : fits (.object C) v = true := by rcases ref_cases h with rfl | ⟨_, rfl⟩ <;> rfl
theorem own_ext_refl (h : Heap) : Ext h h := ⟨Nat.le_refl _, fun _ _ q => q⟩
theorem own_ext_ext {hb h h' : Heap} (X : Ext hb h) (E : Ext h h') : Ext hb h' := ⟨Nat.le_trans X.1 E.1, fun a c q => E.2 a c (X.2 a c q)⟩
theorem own_ext_keep {hb h h' : Heap} {ws : List Addr} (X : Ext hb h) (K : Keep h h' ws) (q : ∀ x ∈ ws, hb.size ≤ x) : Ext hb h' := ⟨Nat.le_trans X.1 K.1, fun a c r => K.2.1 a c (X.2 a c r) fun z => absurd (Array.getElem?_eq_some_iff.mp r).1 (Nat.not_lt.mpr (q a z))⟩
theorem own_ext_wr {hb h h' : Heap} {a : Addr} {sl : Nat} {v : Value} (X : Ext hb h) (W : Wr h h' a sl v) (q : hb.size ≤ a) : Ext hb h' := own_ext_keep X (Keep.of_wr W) (allS q all0)
theorem own_declares {Z : State} {a0 : Array Value} {y : MethodName} {bytes : ByteArray} {maxL : Nat} {ret : Option FieldType} (hi : (Jvm.Cond.instanceMethod y).before a0 Z = true) (hc : (Jvm.Cond.code y bytes maxL ret).before a0 Z = true) : (Jvm.Cond.declares y).before a0 Z = true := by
  obtain ⟨mk, methM, hnamed, hmethM, hstM, habM⟩ := Cond.instanceMethod_spec hi
  obtain ⟨methM', cM, hmethM', -, -, -, -, -, -, hsigM⟩ := Cond.code_spec hnamed hc
  cases hmethM.symm.trans hmethM'
  simp [Cond.before, Cond.holds, Cond.value, hnamed, hmethM, hstM, hsigM]
theorem own_same {Z : State} {a0 : Array Value} {C : String} {y x' z : MethodName} (hi : (Jvm.Cond.instanceMethod y).before a0 Z = true) (hs : (Jvm.Cond.selects C x' z).before a0 Z = true) (e : z.cls = y.cls) (hy : y.cls ≠ "java/lang/invoke/MethodHandle" ∧ y.cls ≠ "java/lang/invoke/VarHandle") : (Jvm.Cond.sameMethod y.cls y.cls y.name y.desc).before a0 Z = true := by
  obtain ⟨mk, methM, hnamed, hmethM, hstM, habM⟩ := Cond.instanceMethod_spec hi
  obtain ⟨c, r, m, -, -, q3, -, k, hk, hki⟩ := Cond.selects_spec hs
  have h1 := findClass_of_methodNamed hnamed
  have h2 := findClass_of_methodNamed q3
  rw [e, h1] at h2
  have h4 : mk.cls = m.cls := Option.some.inj h2
  rw [← h4] at hk
  have h3 := State.methodFound?_of_named hnamed hy
  simp [Cond.before, Cond.holds, Cond.value, h1, h3, hnamed, hk, hki]
theorem own_nf {s : State} {args : Array Value} {C : String} {y x' z : MethodName} (hs : (Jvm.Cond.selects C x' z).before args s = true) (e : z.cls = y.cls) : NotFace s y := fun r0 h0 => by
  obtain ⟨c, r, m, -, -, q3, -, k, hk, hki⟩ := Cond.selects_spec hs
  have h1 := findClass_of_methodNamed h0
  have h2 := findClass_of_methodNamed q3
  rw [e, h1] at h2
  have h4 : r0.cls = m.cls := Option.some.inj h2
  exact ⟨k, by rw [h4]; exact hk, hki⟩
theorem own_shl0 (x : Int32) : x <<< ((0 : Int32) &&& 31) = x := by
  have : (0 : Int32) &&& 31 = 0 := by decide
  rw [this]; simp
theorem own_shr0 (x : Int32) : x >>> ((0 : Int32) &&& 31) = x := by
  have : (0 : Int32) &&& 31 = 0 := by decide
  rw [this]; simp
theorem own_sub0 (x : Int32) : x - (0 : Int32) = x := by simp
theorem own_keep0 {h h' : Heap} (K : Keep h h' []) : Ext h h' := ⟨K.1, fun a c q => K.2.1 a c q nin0⟩
/-! doubles: the quotient of two whole numbers lies on the side of a half on which it should -/
section OwnFl
open Jvm.FP.Core
theorem own_qmin : b64.qmin = -1074 := by decide
theorem own_ex {s : Bool} {K : Nat} {g : Int} (hK : K < 2 ^ 53) (h1 : -1074 ≤ g) (h2 : g ≤ 0) : zmag b64 (roundRatio b64 s K 1 g) = K * 2 ^ (g + 1074).toNat := by
  have hu : inUnits K g b64.qmin = K * 2 ^ (g + 1074).toNat := by
    unfold inUnits; rw [own_qmin, show g - -1074 = g + 1074 by omega]
  rcases roundRatio_cases b64 s K 1 g with ⟨c, q, h⟩ | h
  · have hd := roundRatio_nearest good_b64 (c' := K) (q' := g) (e0 := b64.qmin) (by decide) h (show K < 2 ^ b64.p from hK) (by rw [own_qmin]; exact h1) (Int.le_refl _) (by rw [own_qmin]; exact h1)
    unfold distance at hd
    rw [h]
    show inUnits c q b64.qmin = _
    rw [hu] at hd
    generalize inUnits c q b64.qmin = x at hd ⊢
    generalize K * 2 ^ (g + 1074).toNat = y at hd ⊢
    omega
  · exfalso
    have hi := (roundRatio_inf good_b64 (e0 := b64.qmin - 1) (B := 1) (by decide) (by omega) (by rw [own_qmin]; omega)).mp h
    have e1 : (b64.qmax - 1 - (b64.qmin - 1)).toNat = 2045 := by decide
    rw [e1, Nat.mul_one] at hi
    have h3 : inUnits K g (b64.qmin - 1) ≤ 2 ^ 53 * 2 ^ 1075 := by
      unfold inUnits
      exact Nat.mul_le_mul (Nat.le_of_lt hK) (Nat.pow_le_pow_right (by decide) (by rw [own_qmin]; omega))
    have h4 : 2 ^ 53 * 2 ^ 1075 < 2 ^ 2045 := by rw [← Nat.pow_add]; exact Nat.pow_lt_pow_right (by decide) (by decide)
    have h5 : 2 ^ 2045 ≤ (2 ^ (b64.p + 1) - 1) * 2 ^ 2045 := Nat.le_mul_of_pos_left _ (by decide)
    exact absurd (Nat.le_trans h5 (Nat.le_trans hi h3)) (Nat.not_le.mpr h4)
theorem own_ge {s : Bool} {n d K : Nat} (hd : 0 < d) (hK : K < 2 ^ 53) (h : K * d ≤ n * 2 ^ 21) : K * 2 ^ 1053 ≤ zmag b64 (roundRatio b64 s n d 0) := by
  have e := own_ex (s := false) (g := -21) hK (by decide) (by decide)
  have e2 : ((-21 : Int) + 1074).toNat = 1053 := by decide
  rw [e2] at e
  rw [← e]
  refine zmag_roundRatio_ge good_b64 hd (roundRatio_fits good_b64 _ _ (by decide) _) (Int.le_refl _) (by decide) ?_
  rw [e, Int.sub_self, show (0 : Int).toNat = 0 from rfl, Nat.pow_zero, Nat.mul_one]
  unfold inUnits
  rw [own_qmin, show ((0 : Int) - -1074).toNat = 21 + 1053 by decide, Nat.pow_add, ← Nat.mul_assoc, Nat.mul_right_comm]
  exact Nat.mul_le_mul_right _ h
theorem own_le {s : Bool} {n d K : Nat} (hd : 0 < d) (hK : K < 2 ^ 53) (h : n * 2 ^ 21 ≤ K * d) : zmag b64 (roundRatio b64 s n d 0) ≤ K * 2 ^ 1053 := by
  have e := own_ex (s := false) (g := -21) hK (by decide) (by decide)
  have e2 : ((-21 : Int) + 1074).toNat = 1053 := by decide
  rw [e2] at e
  rw [← e]
  refine zmag_roundRatio_le good_b64 hd (roundRatio_fits good_b64 _ _ (by decide) _) (roundRatio_ne_nan _ _ _ _ _) (Int.le_refl _) (by decide) ?_
  rw [e, Int.sub_self, show (0 : Int).toNat = 0 from rfl, Nat.pow_zero, Nat.mul_one]
  unfold inUnits
  rw [own_qmin, show ((0 : Int) - -1074).toNat = 21 + 1053 by decide, Nat.pow_add, ← Nat.mul_assoc, Nat.mul_right_comm K]
  exact Nat.mul_le_mul_right _ h
theorem own_pw {c n c2 d x1 y1 x2 y2 u v : Nat} (h1 : c * 2 ^ x1 = n * 2 ^ y1) (h2 : c2 * 2 ^ x2 = d * 2 ^ y2) (hu : u + y1 + x2 = v + x1 + y2) : c * d * 2 ^ u = n * c2 * 2 ^ v := by
  refine Nat.eq_of_mul_eq_mul_right (Nat.two_pow_pos (x1 + y2)) ?_
  calc c * d * 2 ^ u * 2 ^ (x1 + y2) = (c * 2 ^ x1) * (d * 2 ^ y2) * 2 ^ u := by rw [Nat.pow_add]; ac_rfl
    _ = (n * 2 ^ y1) * (c2 * 2 ^ x2) * 2 ^ u := by rw [h1, ← h2]
    _ = n * c2 * 2 ^ (u + y1 + x2) := by rw [Nat.pow_add, Nat.pow_add]; ac_rfl
    _ = n * c2 * 2 ^ v * 2 ^ (x1 + y2) := by rw [hu, Nat.add_assoc, Nat.pow_add]; ac_rfl
/-- the quotient of two whole numbers, as a rounded ratio -/
theorem own_quo {a b : UInt64} {N d : Int} (ha : DInt N a) (hb : DInt d b) (hd : 0 < d) : ∃ s : Bool, val64 (ddiv a b) = roundRatio b64 s N.natAbs d.natAbs 0 ∧ (N ≠ 0 → s = decide (N < 0)) := by
  unfold DInt at ha hb
  rw [val64_ddiv]
  rcases hA : val64 a with _ | _ | ⟨s, c, q1⟩
  · rw [hA] at ha; exact ha.elim
  · rw [hA] at ha; exact ha.elim
  rcases hB : val64 b with _ | _ | ⟨t, c2, q2⟩
  · rw [hB] at hb; exact hb.elim
  · rw [hB] at hb; exact hb.elim
  rw [hA] at ha
  rw [hB] at hb
  have hc2 : ¬ c2 = 0 := fun z => by have := (whole_zero hb).mp z; omega
  have ht : t = false := by rw [whole_sign hb (by omega)]; exact decide_eq_false (by omega)
  subst ht
  refine ⟨s, ?_, fun hN => whole_sign ha hN⟩
  show (if c2 = 0 then _ else roundRatio b64 (s != false) c c2 (q1 - q2)) = _
  rw [if_neg hc2, show (s != false) = s by cases s <;> rfl]
  refine roundRatio_congr (by omega) (by omega) ?_
  exact own_pw (whole_natAbs ha) (whole_natAbs hb) (by omega)
theorem own_zv {s : Bool} {N : Int} {n d : Nat} (hs : N ≠ 0 → s = decide (N < 0)) (hn : n = N.natAbs) : (0 ≤ N → zval b64 (roundRatio b64 s n d 0) = (zmag b64 (roundRatio b64 s n d 0) : Int)) ∧ (N < 0 → zval b64 (roundRatio b64 s n d 0) = -(zmag b64 (roundRatio b64 s n d 0) : Int)) := by
  constructor
  · intro h
    by_cases hz : N = 0
    · have : n = 0 := by omega
      subst this
      have e : roundRatio b64 s 0 d 0 = .fin s 0 b64.qmin := by unfold roundRatio; rw [if_pos rfl]
      rw [e]
      have z : zmag b64 (.fin s 0 b64.qmin) = 0 := by show 0 * _ = 0; rw [Nat.zero_mul]
      unfold zval
      rw [z, signed_zero]; rfl
    · unfold zval
      rw [sgn_roundRatio, hs hz, decide_eq_false (by omega)]; rfl
  · intro h
    unfold zval
    rw [sgn_roundRatio, hs (by omega), decide_eq_true h]; rfl
theorem own_mge {a b : UInt64} {N d K : Int} (ha : DInt N a) (hb : DInt d b) (hd : 0 < d) (hK : K.natAbs < 2 ^ 53) (h : K * d ≤ N * 2 ^ 21) : K * ((2 ^ 1053 : Nat) : Int) ≤ zval b64 (val64 (ddiv a b)) := by
  obtain ⟨s, e, hs⟩ := own_quo ha hb hd
  rw [e]
  have hv := own_zv (d := d.natAbs) hs rfl
  have hP : (0 : Int) < ((2 ^ 1053 : Nat) : Int) := Int.natCast_pos.mpr (Nat.two_pow_pos _)
  by_cases hN : 0 ≤ N
  · rw [hv.1 hN]
    by_cases hk : 0 ≤ K
    · have q := own_ge (s := s) (n := N.natAbs) (d := d.natAbs) (K := K.natAbs) (by omega) hK (by
        have e1 : ((K.natAbs * d.natAbs : Nat) : Int) = K * d := by rw [Int.natCast_mul]; congr 1 <;> omega
        have e2 : ((N.natAbs * 2 ^ 21 : Nat) : Int) = N * 2 ^ 21 := by rw [Int.natCast_mul]; congr 1; omega
        omega)
      have e3 : ((K.natAbs * 2 ^ 1053 : Nat) : Int) = K * ((2 ^ 1053 : Nat) : Int) := by rw [Int.natCast_mul]; congr 1; omega
      rw [← e3]; exact Int.ofNat_le.mpr q
    · have : K * ((2 ^ 1053 : Nat) : Int) ≤ 0 := Int.mul_nonpos_of_nonpos_of_nonneg (by omega) (Int.le_of_lt hP)
      omega
  · rw [hv.2 (by omega)]
    have hk : K < 0 := by
      refine Int.lt_of_not_ge fun z => ?_
      have := Int.mul_nonneg z (Int.le_of_lt hd)
      omega
    have q := own_le (s := s) (n := N.natAbs) (d := d.natAbs) (K := K.natAbs) (by omega) hK (by
      have e1 : ((K.natAbs * d.natAbs : Nat) : Int) = -(K * d) := by rw [Int.natCast_mul, show (K.natAbs : Int) = -K by omega, show (d.natAbs : Int) = d by omega, Int.neg_mul]
      have e2 : ((N.natAbs * 2 ^ 21 : Nat) : Int) = -(N * 2 ^ 21) := by rw [Int.natCast_mul, show (N.natAbs : Int) = -N by omega, Int.neg_mul]; rfl
      omega)
    have e3 : ((K.natAbs * 2 ^ 1053 : Nat) : Int) = -(K * ((2 ^ 1053 : Nat) : Int)) := by rw [Int.natCast_mul, show (K.natAbs : Int) = -K by omega, Int.neg_mul]
    have q2 := Int.ofNat_le.mpr q
    rw [e3] at q2
    omega
theorem own_mle {a b : UInt64} {N d K : Int} (ha : DInt N a) (hb : DInt d b) (hd : 0 < d) (hK : K.natAbs < 2 ^ 53) (h : N * 2 ^ 21 ≤ K * d) : zval b64 (val64 (ddiv a b)) ≤ K * ((2 ^ 1053 : Nat) : Int) := by
  obtain ⟨s, e, hs⟩ := own_quo ha hb hd
  rw [e]
  have hv := own_zv (d := d.natAbs) hs rfl
  have hP : (0 : Int) < ((2 ^ 1053 : Nat) : Int) := Int.natCast_pos.mpr (Nat.two_pow_pos _)
  by_cases hN : 0 ≤ N
  · rw [hv.1 hN]
    have hk : 0 ≤ K := by
      refine Int.le_of_not_gt fun z => ?_
      have := Int.mul_neg_of_neg_of_pos z hd
      omega
    have q := own_le (s := s) (n := N.natAbs) (d := d.natAbs) (K := K.natAbs) (by omega) hK (by
      have e1 : ((K.natAbs * d.natAbs : Nat) : Int) = K * d := by rw [Int.natCast_mul]; congr 1 <;> omega
      have e2 : ((N.natAbs * 2 ^ 21 : Nat) : Int) = N * 2 ^ 21 := by rw [Int.natCast_mul]; congr 1; omega
      omega)
    have e3 : ((K.natAbs * 2 ^ 1053 : Nat) : Int) = K * ((2 ^ 1053 : Nat) : Int) := by rw [Int.natCast_mul]; congr 1; omega
    rw [← e3]; exact Int.ofNat_le.mpr q
  · rw [hv.2 (by omega)]
    by_cases hk : 0 ≤ K
    · have : 0 ≤ K * ((2 ^ 1053 : Nat) : Int) := Int.mul_nonneg hk (Int.le_of_lt hP)
      omega
    · have q := own_ge (s := s) (n := N.natAbs) (d := d.natAbs) (K := K.natAbs) (by omega) hK (by
        have e1 : ((K.natAbs * d.natAbs : Nat) : Int) = -(K * d) := by rw [Int.natCast_mul, show (K.natAbs : Int) = -K by omega, show (d.natAbs : Int) = d by omega, Int.neg_mul]
        have e2 : ((N.natAbs * 2 ^ 21 : Nat) : Int) = -(N * 2 ^ 21) := by rw [Int.natCast_mul, show (N.natAbs : Int) = -N by omega, Int.neg_mul]; rfl
        omega)
      have e3 : ((K.natAbs * 2 ^ 1053 : Nat) : Int) = -(K * ((2 ^ 1053 : Nat) : Int)) := by rw [Int.natCast_mul, show (K.natAbs : Int) = -K by omega, Int.neg_mul]
      have q2 := Int.ofNat_le.mpr q
      rw [e3] at q2
      omega
theorem own_one : (one64 : Int) = 2 ^ 21 * ((2 ^ 1053 : Nat) : Int) := by
  unfold one64
  rw [show 1074 = 21 + 1053 by decide, Nat.pow_add, Int.natCast_mul]; rfl
/-- a sum with a half is exact -/
theorem own_half {a h : UInt64} {q : Int} (ha : DInt q a) (hh : val64 h = .fin false (2 ^ 52) (-53)) (hq : q.natAbs ≤ 2 ^ 31) : val64 (dadd a h) ≠ .nan ∧ zval b64 (val64 (dadd a h)) = (2 * q + 1) * (2 ^ 20 * ((2 ^ 1053 : Nat) : Int)) := by
  have hz := DInt_zval ha
  unfold DInt at ha
  have hf := val64_fits a
  rw [val64_dadd, hh]
  rcases hA : val64 a with _ | _ | ⟨s, c, q1⟩
  · rw [hA] at ha; exact ha.elim
  · rw [hA] at ha; exact ha.elim
  rw [hA] at ha hf hz
  have hq1 : (-1074 : Int) ≤ q1 := own_qmin ▸ hf.2.1
  let V : Datum := roundRatio b64 (decide (2 * q + 1 < 0)) (2 * q + 1).natAbs 1 (-1)
  have hVf : Jvm.FP.Core.fits b64 V := roundRatio_fits good_b64 _ _ (by decide) _
  have hVn : V ≠ .nan := roundRatio_ne_nan _ _ _ _ _
  have hVz : zval b64 V = (2 * q + 1) * (2 ^ 20 * ((2 ^ 1053 : Nat) : Int)) := by
    have e := own_ex (s := decide (2 * q + 1 < 0)) (K := (2 * q + 1).natAbs) (g := -1) (by omega) (by decide) (by decide)
    unfold zval
    rw [show V = roundRatio b64 (decide (2 * q + 1 < 0)) (2 * q + 1).natAbs 1 (-1) from rfl, e, sgn_roundRatio, signed_mul, show ((-1 : Int) + 1074).toNat = 20 + 1053 by decide, Nat.pow_add, Int.natCast_mul]
    congr 1
    unfold signed
    by_cases z : 2 * q + 1 < 0
    · rw [decide_eq_true z, if_pos rfl]; omega
    · rw [decide_eq_false z, if_neg (by decide)]; omega
  have hsum : ∀ (v e : Int) (sg : Bool), (v ≠ 0 → sg = decide (v < 0)) → signed sg (inUnits v.natAbs e b64.qmin) = v * ((2 ^ (e - b64.qmin).toNat : Nat) : Int) := by
    intro v e sg hsg
    unfold inUnits
    rw [signed_mul]
    congr 1
    by_cases hv : v = 0
    · subst hv; exact signed_zero _
    · rw [hsg hv]
      unfold signed
      by_cases z : v < 0
      · rw [decide_eq_true z, if_pos rfl]; omega
      · rw [decide_eq_false z, if_neg (by decide)]; omega
  have hex : ∃ (sg : Bool) (v e : Int), exactSum (.fin s c q1) (.fin false (2 ^ 52) (-53)) = .fin sg v.natAbs e ∧ (v ≠ 0 → sg = decide (v < 0)) ∧ b64.qmin ≤ e ∧ v * ((2 ^ (e - b64.qmin).toNat : Nat) : Int) = zval b64 V := by
    refine ⟨_, sumUnits s c q1 false (2 ^ 52) (-53) (min q1 (-53)), min q1 (-53), rfl, ?_, by rw [own_qmin]; omega, ?_⟩
    · intro hv; unfold sumSign; rw [if_neg hv]
    · have m1 := inUnits_move c (q := q1) (r := min q1 (-53)) (e := b64.qmin) (by rw [own_qmin]; omega) (by omega)
      have m2 := inUnits_move (2 ^ 52) (q := -53) (r := min q1 (-53)) (e := b64.qmin) (by rw [own_qmin]; omega) (by omega)
      unfold sumUnits
      rw [Int.add_mul, ← signed_mul, ← signed_mul, ← m1, ← m2]
      have z1 : signed s (inUnits c q1 b64.qmin) = q * (one64 : Int) := hz
      have z2 : signed false (inUnits (2 ^ 52) (-53) b64.qmin) = 2 ^ 20 * ((2 ^ 1053 : Nat) : Int) := by
        unfold inUnits signed
        rw [if_neg (by decide), own_qmin, show ((-53 : Int) - -1074).toNat = 1021 by decide, ← Nat.pow_add, show 52 + 1021 = 20 + 1053 by decide, Nat.pow_add, Int.natCast_mul]; rfl
      rw [z1, z2, hVz, own_one]
      generalize ((2 ^ 1053 : Nat) : Int) = E
      rw [Int.add_mul, Int.one_mul, show q * (2 ^ 21 * E) = 2 * q * (2 ^ 20 * E) by rw [show (2 : Int) ^ 21 = 2 * 2 ^ 20 from by decide]; ac_rfl]
  obtain ⟨sg, v, e, h1, h2, h3, h4⟩ := hex
  rw [h1]
  have g := hsum v e sg h2
  rw [h4] at g
  have P1 : ((2 ^ (b64.qmin - b64.qmin).toNat : Nat) : Int) = 1 := by rw [Int.sub_self]; rfl
  refine ⟨roundRatio_ne_nan _ _ _ _ _, ?_⟩
  rw [← hVz]
  refine Int.le_antisymm ?_ ?_
  · exact zval_round_le good_b64 hVf hVn (e0 := b64.qmin) (Int.le_refl _) h3 (by rw [P1, Int.mul_one, g]; exact Int.le_refl _)
  · exact zval_round_ge good_b64 hVf hVn (e0 := b64.qmin) (Int.le_refl _) h3 (by rw [P1, Int.mul_one, g]; exact Int.le_refl _)
end OwnFl
section OwnFl2
open Jvm.FP.Core Jvm.Free.Fl
theorem fl_lt {a b : UInt64} (ha : val64 a ≠ .nan) (hb : val64 b ≠ .nan) (h : zval b64 (val64 a) < zval b64 (val64 b)) (o : CmpOp) : cmpValue (FP.dcmp a b) o < (0 : Int32) := by
  rw [show FP.dcmp a b = some .lt from (dcmp_zval ha hb).trans (congrArg some ((compare_lt_iff _ _).mpr h))]
  cases o <;> decide
theorem fl_eq {a b : UInt64} (ha : val64 a ≠ .nan) (hb : val64 b ≠ .nan) (h : zval b64 (val64 a) = zval b64 (val64 b)) (o : CmpOp) : cmpValue (FP.dcmp a b) o = (0 : Int32) := by
  rw [show FP.dcmp a b = some .eq from (dcmp_zval ha hb).trans (congrArg some ((compare_eq_iff _ _).mpr h))]
  cases o <;> decide
theorem fl_d {x d : Int32} (h : ((x &&& (1048575 : Int32)) + (1 : Int32)) = d) : 1 ≤ d.toInt ∧ d.toInt ≤ 1048576 := by
  have q := c_and x 1048575 (by decide)
  have e1 : (1048575 : Int32).toInt = 1048575 := by decide
  have e2 : (1 : Int32).toInt = 1 := by decide
  subst h
  rw [Int32.toInt_add, e2, Int.bmod_eq_of_le (by omega) (by omega)]
  omega
theorem fl_r {y d r : Int32} (hd : 1 ≤ d.toInt ∧ d.toInt ≤ 1048576) (h : ((y &&& (2147483647 : Int32)) % d) = r) : 0 ≤ r.toInt ∧ r.toInt < d.toInt := by
  have q := c_and y 2147483647 (by decide)
  subst h
  rw [Int32.toInt_mod]
  exact ⟨Int.tmod_nonneg _ (by omega), Int.tmod_lt_of_pos _ (by omega)⟩
theorem fl_ab {q d r : Int} (hq : -2147483648 ≤ q ∧ q ≤ 2147483647) (hd : 1 ≤ d ∧ d ≤ 1048576) (hr : 0 ≤ r ∧ r < d) : -2251799813685248 ≤ q * d ∧ q * d ≤ 2251799813685248 := by
  have h1 : q * d ≤ 2147483648 * d := Int.mul_le_mul_of_nonneg_right (by omega) (by omega)
  have h2 : -2147483648 * d ≤ q * d := Int.mul_le_mul_of_nonneg_right (by omega) (by omega)
  omega
theorem fl_i32 (q : Int32) : -2147483648 ≤ q.toInt ∧ q.toInt ≤ 2147483647 := by
  have h1 := q.toInt_lt
  have h2 := q.le_toInt
  omega
theorem fl_N {q d r : Int32} {N : Int64} (hd : 1 ≤ d.toInt ∧ d.toInt ≤ 1048576) (hr : 0 ≤ r.toInt ∧ r.toInt < d.toInt) (h : ((q.toInt64) * (d.toInt64)) + (r.toInt64) = N) : N.toInt = q.toInt * d.toInt + r.toInt := by
  have hb := fl_ab (fl_i32 q) hd hr
  subst h
  rw [Int64.toInt_add, Int64.toInt_mul, Int32.toInt_toInt64, Int32.toInt_toInt64, Int32.toInt_toInt64, Int.bmod_eq_of_le (n := q.toInt * d.toInt) (by omega) (by omega), Int.bmod_eq_of_le (by omega) (by omega)]
theorem fl_2r {r d : Int32} (hd : 1 ≤ d.toInt ∧ d.toInt ≤ 1048576) (hr : 0 ≤ r.toInt ∧ r.toInt < d.toInt) : (lcmpW ((2 : Int64) * (r.toInt64)) (d.toInt64) < (0 : Int32) ↔ 2 * r.toInt < d.toInt) ∧ (lcmpW ((2 : Int64) * (r.toInt64)) (d.toInt64) = (0 : Int32) ↔ 2 * r.toInt = d.toInt) := by
  have e1 : ((2 : Int64) * (r.toInt64)).toInt = 2 * r.toInt := by
    rw [Int64.toInt_mul, Int32.toInt_toInt64, show (2 : Int64).toInt = 2 by decide, Int.bmod_eq_of_le (by omega) (by omega)]
  have e2 : (d.toInt64).toInt = d.toInt := Int32.toInt_toInt64 d
  generalize (2 : Int64) * (r.toInt64) = A at e1 ⊢
  generalize d.toInt64 = B at e2 ⊢
  simp only [lcmpW, Int64.lt_iff_toInt_lt, ← Int64.toInt_inj, e1, e2]
  constructor
  · by_cases h1 : 2 * r.toInt < d.toInt
    · simp [h1, show ¬ d.toInt < 2 * r.toInt by omega, show ¬ 2 * r.toInt = d.toInt by omega]
    · by_cases h2 : 2 * r.toInt = d.toInt
      · simp [h2]
      · simp [h1, h2, show d.toInt < 2 * r.toInt by omega]
  · by_cases h1 : 2 * r.toInt < d.toInt
    · simp [show ¬ d.toInt < 2 * r.toInt by omega, show ¬ 2 * r.toInt = d.toInt by omega]
    · by_cases h2 : 2 * r.toInt = d.toInt
      · simp [h2]
      · simp [h2, show d.toInt < 2 * r.toInt by omega]
theorem fl_half : val64 4602678819172646912 = .fin false (2 ^ 52) (-53) := by decide +kernel
theorem fl_hn (q : Int32) : NoNaN64 (FP.dadd (FP.i2d q) 4602678819172646912) := val64_no.mpr (own_half (i2d_int q) fl_half (by have := fl_i32 q; omega)).1
theorem fl_oi (q : Int32) : DInt (q.toInt + 1) (FP.dadd (FP.i2d q) FP.dconst1) := dadd_int (i2d_int q) dint_one (by have := fl_i32 q; omega)
theorem fl_on (q : Int32) : NoNaN64 (FP.dadd (FP.i2d q) FP.dconst1) := val64_no.mpr (DInt_ne_nan (fl_oi q))
theorem fl_1 : FP.i2d (1 : Int32) = FP.dconst1 := by decide +kernel
theorem fl_div1 (x : Int64) : FP.ddiv (FP.l2d x) (FP.i2d (1 : Int32)) = FP.l2d x := by rw [fl_1]; exact ddiv_one (val64_no.mp (Jvm.Free.Fl.l2d_fin x).noNaN)
theorem fl_d1n (x : Int64) : NoNaN64 (FP.ddiv (FP.l2d x) (FP.i2d (1 : Int32))) := by rw [fl_div1]; exact (Jvm.Free.Fl.l2d_fin x).noNaN
theorem fl_c1 (x : Int64) : cmpValue (FP.dcmp (FP.ddiv (FP.l2d x) (FP.i2d (1 : Int32))) (FP.l2d x)) .l = (0 : Int32) := by rw [fl_div1]; exact dcmpV_self (Jvm.Free.Fl.l2d_fin x).noNaN .l
theorem fl_c0 : cmpValue (FP.dcmp FP.dconst0 FP.dconst0) .l = (0 : Int32) := by decide +kernel
section Main
variable {q d r : Int32} {N : Int64} (hd : 1 ≤ d.toInt ∧ d.toInt ≤ 1048576) (hr : 0 ≤ r.toInt ∧ r.toInt < d.toInt) (hN : N.toInt = q.toInt * d.toInt + r.toInt)
theorem fl_ni (hd : 1 ≤ d.toInt ∧ d.toInt ≤ 1048576) (hr : 0 ≤ r.toInt ∧ r.toInt < d.toInt) (hN : N.toInt = q.toInt * d.toInt + r.toInt) : DInt (q.toInt * d.toInt + r.toInt) (FP.l2d N) := by
  have hb := fl_ab (fl_i32 q) hd hr
  rw [← hN]
  exact l2d_int (by rw [hN]; omega)
theorem fl_dn (hd : 1 ≤ d.toInt ∧ d.toInt ≤ 1048576) (hr : 0 ≤ r.toInt ∧ r.toInt < d.toInt) (hN : N.toInt = q.toInt * d.toInt + r.toInt) : NoNaN64 (FP.ddiv (FP.l2d N) (FP.i2d d)) := by
  obtain ⟨s, e, -⟩ := own_quo (fl_ni hd hr hN) (i2d_int d) (by omega)
  refine val64_no.mpr ?_
  rw [show Jvm.FP.Core.val64 (FP.ddiv (FP.l2d N) (FP.i2d d)) = _ from e]
  exact roundRatio_ne_nan _ _ _ _ _
theorem fl_ge (hd : 1 ≤ d.toInt ∧ d.toInt ≤ 1048576) (hr : 0 ≤ r.toInt ∧ r.toInt < d.toInt) (hN : N.toInt = q.toInt * d.toInt + r.toInt) (k : Int) (hk : 0 ≤ k ∧ k ≤ 2097152) (h : k * d.toInt ≤ r.toInt * 2097152) : (q.toInt * 2097152 + k) * ((2 ^ 1053 : Nat) : Int) ≤ zval b64 (val64 (FP.ddiv (FP.l2d N) (FP.i2d d))) := by
  have hq := fl_i32 q
  refine own_mge (fl_ni hd hr hN) (i2d_int d) (by omega) (by omega) ?_
  rw [Int.add_mul (q.toInt * 2097152) k d.toInt, show q.toInt * 2097152 * d.toInt = 2097152 * (q.toInt * d.toInt) by ac_rfl, show ((2 : Int) ^ 21) = 2097152 by decide]
  generalize q.toInt * d.toInt = x
  generalize k * d.toInt = y at h ⊢
  omega
theorem fl_le (hd : 1 ≤ d.toInt ∧ d.toInt ≤ 1048576) (hr : 0 ≤ r.toInt ∧ r.toInt < d.toInt) (hN : N.toInt = q.toInt * d.toInt + r.toInt) (k : Int) (hk : 0 ≤ k ∧ k ≤ 2097152) (h : r.toInt * 2097152 ≤ k * d.toInt) : zval b64 (val64 (FP.ddiv (FP.l2d N) (FP.i2d d))) ≤ (q.toInt * 2097152 + k) * ((2 ^ 1053 : Nat) : Int) := by
  have hq := fl_i32 q
  refine own_mle (fl_ni hd hr hN) (i2d_int d) (by omega) (by omega) ?_
  rw [Int.add_mul (q.toInt * 2097152) k d.toInt, show q.toInt * 2097152 * d.toInt = 2097152 * (q.toInt * d.toInt) by ac_rfl, show ((2 : Int) ^ 21) = 2097152 by decide]
  generalize q.toInt * d.toInt = x
  generalize k * d.toInt = y at h ⊢
  omega
theorem fl_E : (0 : Int) < ((2 ^ 1053 : Nat) : Int) := Int.natCast_pos.mpr (Nat.two_pow_pos _)
theorem fl_qz (q : Int32) : zval b64 (val64 (FP.i2d q)) = (q.toInt * 2097152) * ((2 ^ 1053 : Nat) : Int) := by
  rw [DInt_zval (i2d_int q), own_one, show ((2 : Int) ^ 21) = 2097152 by decide, Int.mul_assoc]
theorem fl_oz (q : Int32) : zval b64 (val64 (FP.dadd (FP.i2d q) FP.dconst1)) = (q.toInt * 2097152 + 2097152) * ((2 ^ 1053 : Nat) : Int) := by
  rw [DInt_zval (fl_oi q), own_one, show ((2 : Int) ^ 21) = 2097152 by decide, ← Int.mul_assoc]
  congr 1; omega
theorem fl_hz (q : Int32) : zval b64 (val64 (FP.dadd (FP.i2d q) 4602678819172646912)) = (q.toInt * 2097152 + 1048576) * ((2 ^ 1053 : Nat) : Int) := by
  rw [show zval b64 (val64 (FP.dadd (FP.i2d q) 4602678819172646912)) = _ from (own_half (i2d_int q) fl_half (by have := fl_i32 q; omega)).2, show ((2 : Int) ^ 20) = 1048576 by decide, ← Int.mul_assoc]
  congr 1; omega
theorem fl_m {a b : Int} (h : a < b) : a * ((2 ^ 1053 : Nat) : Int) < b * ((2 ^ 1053 : Nat) : Int) := Int.mul_lt_mul_of_pos_right h fl_E
theorem fl_a (hd : 1 ≤ d.toInt ∧ d.toInt ≤ 1048576) (hr : 0 ≤ r.toInt ∧ r.toInt < d.toInt) (hN : N.toInt = q.toInt * d.toInt + r.toInt) (h : r = (0 : Int32)) : cmpValue (FP.dcmp (FP.ddiv (FP.l2d N) (FP.i2d d)) (FP.i2d q)) .l = (0 : Int32) := by
  have hr0 : r.toInt = 0 := by rw [h]; rfl
  refine fl_eq (val64_no.mp (fl_dn hd hr hN)) (DInt_ne_nan (i2d_int q)) ?_ _
  rw [fl_qz]
  have h1 := fl_ge hd hr hN 0 (by omega) (by omega)
  have h2 := fl_le hd hr hN 0 (by omega) (by omega)
  rw [Int.add_zero] at h1 h2
  exact Int.le_antisymm h2 h1
theorem fl_b (hd : 1 ≤ d.toInt ∧ d.toInt ≤ 1048576) (hr : 0 ≤ r.toInt ∧ r.toInt < d.toInt) (hN : N.toInt = q.toInt * d.toInt + r.toInt) (h0 : ¬ r = (0 : Int32)) (h : 2 * r.toInt < d.toInt) : cmpValue (FP.dcmp (FP.i2d q) (FP.ddiv (FP.l2d N) (FP.i2d d))) .g < (0 : Int32) ∧ cmpValue (FP.dcmp (FP.ddiv (FP.l2d N) (FP.i2d d)) (FP.dadd (FP.i2d q) 4602678819172646912)) .g < (0 : Int32) := by
  have hr0 : 1 ≤ r.toInt := by
    have : r.toInt ≠ 0 := fun z => h0 (Int32.toInt_inj.mp (z.trans (show 0 = (0 : Int32).toInt from rfl)))
    omega
  constructor
  · refine fl_lt (DInt_ne_nan (i2d_int q)) (val64_no.mp (fl_dn hd hr hN)) ?_ _
    rw [fl_qz]
    exact Int.lt_of_lt_of_le (fl_m (by omega)) (fl_ge hd hr hN 1 (by omega) (by omega))
  · refine fl_lt (val64_no.mp (fl_dn hd hr hN)) (val64_no.mp (fl_hn q)) ?_ _
    rw [fl_hz]
    exact Int.lt_of_le_of_lt (fl_le hd hr hN 1048575 (by omega) (by omega)) (fl_m (by omega))
theorem fl_c (hd : 1 ≤ d.toInt ∧ d.toInt ≤ 1048576) (hr : 0 ≤ r.toInt ∧ r.toInt < d.toInt) (hN : N.toInt = q.toInt * d.toInt + r.toInt) (h : 2 * r.toInt = d.toInt) : cmpValue (FP.dcmp (FP.ddiv (FP.l2d N) (FP.i2d d)) (FP.dadd (FP.i2d q) 4602678819172646912)) .l = (0 : Int32) := by
  refine fl_eq (val64_no.mp (fl_dn hd hr hN)) (val64_no.mp (fl_hn q)) ?_ _
  rw [fl_hz]
  exact Int.le_antisymm (fl_le hd hr hN 1048576 (by omega) (by omega)) (fl_ge hd hr hN 1048576 (by omega) (by omega))
theorem fl_e (hd : 1 ≤ d.toInt ∧ d.toInt ≤ 1048576) (hr : 0 ≤ r.toInt ∧ r.toInt < d.toInt) (hN : N.toInt = q.toInt * d.toInt + r.toInt) (h1 : ¬ 2 * r.toInt < d.toInt) (h2 : ¬ 2 * r.toInt = d.toInt) : cmpValue (FP.dcmp (FP.dadd (FP.i2d q) 4602678819172646912) (FP.ddiv (FP.l2d N) (FP.i2d d))) .g < (0 : Int32) ∧ cmpValue (FP.dcmp (FP.ddiv (FP.l2d N) (FP.i2d d)) (FP.dadd (FP.i2d q) FP.dconst1)) .g < (0 : Int32) := by
  constructor
  · refine fl_lt (val64_no.mp (fl_hn q)) (val64_no.mp (fl_dn hd hr hN)) ?_ _
    rw [fl_hz]
    exact Int.lt_of_lt_of_le (fl_m (by omega)) (fl_ge hd hr hN 1048577 (by omega) (by omega))
  · refine fl_lt (val64_no.mp (fl_dn hd hr hN)) (val64_no.mp (fl_on q)) ?_ _
    rw [fl_oz]
    exact Int.lt_of_le_of_lt (fl_le hd hr hN 2097151 (by omega) (by omega)) (fl_m (by omega))
end Main
end OwnFl2

theorem d1_0 : decode prog_33_method_1_code 0 = .ok (.aload_n 0, 1) := by decide +kernel
theorem d1_1 : decode prog_33_method_1_code 1 = .ok (.invokespecial 1, 3) := by decide +kernel
theorem d1_4 : decode prog_33_method_1_code 4 = .ok (.aload_n 0, 1) := by decide +kernel
theorem d1_5 : decode prog_33_method_1_code 5 = .ok (.iload_n 1, 1) := by decide +kernel
theorem d1_6 : decode prog_33_method_1_code 6 = .ok (.putfield 7, 3) := by decide +kernel
theorem d1_9 : decode prog_33_method_1_code 9 = .ok (.aload_n 0, 1) := by decide +kernel
theorem d1_10 : decode prog_33_method_1_code 10 = .ok (.iload_n 2, 1) := by decide +kernel
theorem d1_11 : decode prog_33_method_1_code 11 = .ok (.putfield 13, 3) := by decide +kernel
theorem d1_14 : decode prog_33_method_1_code 14 = .ok (.aload_n 0, 1) := by decide +kernel
theorem d1_15 : decode prog_33_method_1_code 15 = .ok (.lload_n 3, 1) := by decide +kernel
theorem d1_16 : decode prog_33_method_1_code 16 = .ok (.putfield 16, 3) := by decide +kernel
theorem d1_19 : decode prog_33_method_1_code 19 = .ok (.return_, 1) := by decide +kernel
theorem pn_com_example_hanap_hanap_index_IndexStatistics : plainName "com/example/hanap/hanap/index/IndexStatistics" = true := by first | (simp [plainName, overriddenIn]; done) | decide +kernel
theorem ef_ctor (m : MethodId) (x0 : Addr) (x1 : Int32) (x2 : Int32) (x3 : Int64) : entryFrame m #[(.ref x0), (.int x1), (.int x2), (.long x3)] 5 = mkF m 0 #[.val (.ref x0), .val (.int x1), .val (.int x2), .val (.long x3), .second] [] := by first | (simp [entryFrame, mkF, argsToLocals, Value.category]; done) | rfl
def Q_ctor (Z : State) (a1 : Addr) (p2 : Int32) (p3 : Int32) (p4 : Int64) (h0 : Heap) (n0 : Nat) (v : Option Value) (h : Heap) (L : List Loc) : Prop := v = none ∧ Fr n0 L ∧ (Keep h0 h [a1]) ∧ (Fld Z h a1 "com/example/hanap/hanap/index/IndexStatistics" "documents" "I" (.int p2)) ∧ (Fld Z h a1 "com/example/hanap/hanap/index/IndexStatistics" "tokens" "J" (.long p4))
set_option maxRecDepth 65536 in
set_option maxHeartbeats 40000000 in
theorem ctor (l : Launch) (Z : State) (a0 : Array Value) (hw : ∀ d ∈ tables_1, d.before a0 Z = true) (ws : List Jvm.Cond) (a1 : Addr) (p2 : Int32) (p3 : Int32) (p4 : Int64) (h0 : Heap) (n0 : Nat) (Z0 : n0 ≤ h0.size) (g_a1 : n0 ≤ a1) (E_a1 : Exa Z h0 a1 "com/example/hanap/hanap/index/IndexStatistics") (F_documents : Fld Z h0 a1 "com/example/hanap/hanap/index/IndexStatistics" "documents" "I" (.int (0 : Int32))) (F_terms : Fld Z h0 a1 "com/example/hanap/hanap/index/IndexStatistics" "terms" "I" (.int (0 : Int32))) (F_tokens : Fld Z h0 a1 "com/example/hanap/hanap/index/IndexStatistics" "tokens" "J" (.long (0 : Int64))) :
    MetFree l (⟨"com/example/hanap/hanap/index/IndexStatistics", "<init>", "(IIJ)V"⟩ : MethodName) (head1 (Jvm.Cond.code (⟨"com/example/hanap/hanap/index/IndexStatistics", "<init>", "(IIJ)V"⟩ : MethodName) prog_33_method_1_code 5 none :: ws) ({ frames := 1, cells := 0, slots := 0, locals := 12 } : Room)) (fun a U => a = #[(.ref a1), (.int p2), (.int p3), (.long p4)] ∧ Z.Warmed39 U.vm ∧ U.heap = h0) (fun _ _ _ _ _ => True) (fun _ U o U' => ∃ v L, o = .returned v ∧ Q_ctor Z a1 p2 p3 p4 h0 n0 v U'.heap L ∧ FrameEnd U o U' L ({ frames := 1, cells := 0, slots := 0, locals := 12 } : Room).cells ({ frames := 1, cells := 0, slots := 0, locals := 12 } : Room).slots) := by
  refine MetFree.of_bodySF (plainFor_of_name pn_com_example_hanap_hanap_index_IndexStatistics) hisR ?_
  intro p e s m args below meth c s₁ Bd hml0 hP hK
  obtain ⟨rfl, hZ, hh⟩ := hP
  have hx := Bd.exec
  have hby := Bd.bytes
  have hml : c.maxLocals = 5 := hml0
  have hown : s.vm.findClass "com/example/hanap/hanap/index/IndexStatistics" = some m.cls := findClass_of_methodNamed Bd.named
  have hnm := (name_of_methodNamed Bd.named Bd.method).1
  have hret : meth.sig.returnType = none := Bd.returns
  have hlk : meth.locks = false := BodyLoose.notSynchronized Bd
  have X0 : Stand p l e ({ frames := 1, cells := 0, slots := 0, locals := 12 } : Room) s m #[(.ref a1), (.int p2), (.int p3), (.long p4)] below meth c s₁ [] 0 0 := Stand.of_body Bd
  have e0 : s₁.heap = h0 := by rw [← hh, Bd.state]; rfl
  have N0 := Fr.nil n0
  have K0 : Keep h0 h0 [a1] := Keep.refl h0 _
  show Gl p.tables e below s (Q_ctor Z a1 p2 p3 p4 h0 n0) 0 0 _
  refine Gl.pre (B := s₁.setTop (mkF m 0 #[.val (.ref a1), .val (.int p2), .val (.int p3), .val (.long p4), .second] [])) (fun _ k => castTop (ef_ctor m a1 p2 p3 p4) k) ?_
  refine Gl.pre (B := s₁.setTop (mkF m 1 #[.val (.ref a1), .val (.int p2), .val (.int p3), .val (.long p4), .second] [(.ref a1)])) (fun _ k => XS.aloadN X0.here hx rfl (hb hby d1_0) rfl rfl k) ?_
  obtain ⟨T1, X1, e1, st1⟩ := initO X0 hx hZ hown (wq hw 6 rfl) (wq hw 7 rfl) (wq hw 8 rfl) e0 (g := (mkF m 1 #[.val (.ref a1), .val (.int p2), .val (.int p3), .val (.long p4), .second] [(.ref a1)])) rfl (by rw [hml]; rfl) rfl (hb hby d1_1) (by decide) (W := 0) (by show 2 * 0 + _ ≤ _; exact Nat.le_of_eq rfl) (by decide)
  refine Gl.pre (B := T1.setTop (mkF m 6 #[.val (.ref a1), .val (.int p2), .val (.int p3), .val (.long p4), .second] [(.int p2), (.ref a1)])) (fun _ k => st1 _ (XS.aloadN X1.here hx rfl (hb hby d1_4) rfl rfl (XS.iloadN X1.here hx rfl (hb hby d1_5) rfl k))) ?_
  obtain ⟨T2, h2, X2, e2, W2, st2⟩ := putF X1 hx hZ hown (host := "") (Or.inl (wq hw 9 rfl)) Via.refl e1 F_documents E_a1 (Or.inr ⟨(wq hw 10 rfl), rfl, hnm⟩) (wq hw 1 rfl) (ty := .int) (by decide) rfl rfl (g := (mkF m 6 #[.val (.ref a1), .val (.int p2), .val (.int p3), .val (.long p4), .second] [(.int p2), (.ref a1)])) rfl rfl (hb hby d1_6)
  have N2 := Fr.snoc X2 N0 g_a1
  have F_documents_n := F_documents.same W2
  have E_a1 := E_a1.wr W2
  have F_terms := F_terms.other W2 (Or.inr (slot_ne (Or.inr (wq hw 12 rfl)) (Or.inr (wq hw 10 rfl)) (by decide) (t := .int) (t' := .int) (by decide) (by decide)))
  have F_tokens := F_tokens.other W2 (Or.inr (slot_ne (Or.inr (wq hw 14 rfl)) (Or.inr (wq hw 10 rfl)) (by decide) (t := .long) (t' := .int) (by decide) (by decide)))
  have K0 := K0.wr W2 (Or.inl (List.mem_of_getElem? (i := 0) rfl))
  have F_documents := F_documents_n
  refine Gl.pre (B := T2.setTop (mkF m 11 #[.val (.ref a1), .val (.int p2), .val (.int p3), .val (.long p4), .second] [(.int p3), (.ref a1)])) (fun _ k => st2 _ (XS.aloadN X2.here hx rfl (hb hby d1_9) rfl rfl (XS.iloadN X2.here hx rfl (hb hby d1_10) rfl k))) ?_
  obtain ⟨T3, h3, X3, e3, W3, st3⟩ := putF X2 hx hZ hown (host := "") (Or.inl (wq hw 11 rfl)) Via.refl e2 F_terms E_a1 (Or.inr ⟨(wq hw 12 rfl), rfl, hnm⟩) (wq hw 1 rfl) (ty := .int) (by decide) rfl rfl (g := (mkF m 11 #[.val (.ref a1), .val (.int p2), .val (.int p3), .val (.long p4), .second] [(.int p3), (.ref a1)])) rfl rfl (hb hby d1_11)
  have N3 := Fr.snoc X3 N2 g_a1
  have F_terms_n := F_terms.same W3
  have E_a1 := E_a1.wr W3
  have F_tokens := F_tokens.other W3 (Or.inr (slot_ne (Or.inr (wq hw 14 rfl)) (Or.inr (wq hw 12 rfl)) (by decide) (t := .long) (t' := .int) (by decide) (by decide)))
  have K0 := K0.wr W3 (Or.inl (List.mem_of_getElem? (i := 0) rfl))
  have F_documents := F_documents.other W3 (Or.inr (slot_ne (Or.inr (wq hw 10 rfl)) (Or.inr (wq hw 12 rfl)) (by decide) (t := .int) (t' := .int) (by decide) (by decide)))
  have F_terms := F_terms_n
  refine Gl.pre (B := T3.setTop (mkF m 16 #[.val (.ref a1), .val (.int p2), .val (.int p3), .val (.long p4), .second] [(.long p4), (.ref a1)])) (fun _ k => st3 _ (XS.aloadN X3.here hx rfl (hb hby d1_14) rfl rfl (XS.lloadN X3.here hx rfl (hb hby d1_15) rfl k))) ?_
  obtain ⟨T4, h4, X4, e4, W4, st4⟩ := putF X3 hx hZ hown (host := "") (Or.inl (wq hw 13 rfl)) Via.refl e3 F_tokens E_a1 (Or.inr ⟨(wq hw 14 rfl), rfl, hnm⟩) (wq hw 1 rfl) (ty := .long) (by decide) rfl rfl (g := (mkF m 16 #[.val (.ref a1), .val (.int p2), .val (.int p3), .val (.long p4), .second] [(.long p4), (.ref a1)])) rfl rfl (hb hby d1_16)
  have N4 := Fr.snoc X4 N3 g_a1
  have F_tokens_n := F_tokens.same W4
  have K0 := K0.wr W4 (Or.inl (List.mem_of_getElem? (i := 0) rfl))
  have F_documents := F_documents.other W4 (Or.inr (slot_ne (Or.inr (wq hw 10 rfl)) (Or.inr (wq hw 14 rfl)) (by decide) (t := .int) (t' := .long) (by decide) (by decide)))
  have F_tokens := F_tokens_n
  refine Gl.pre (B := T4.setTop (mkF m 19 #[.val (.ref a1), .val (.int p2), .val (.int p3), .val (.long p4), .second] [])) (fun _ k => st4 _ k) ?_
  refine Gl.out X4 (v := none) (fun _ => rfl) hlk (fun fs hr => X4.returnOut hx hret (hb hby d1_19) hr) ?_ (by decide) (by decide)
  show Q_ctor Z _ _ _ _ h0 n0 _ T4.heap _
  rw [e4]
  exact ⟨rfl, N4, K0, F_documents, F_tokens⟩
theorem d3_0 : decode prog_33_method_5_code 0 = .ok (.aload_n 0, 1) := by decide +kernel
theorem d3_1 : decode prog_33_method_5_code 1 = .ok (.getfield 7, 3) := by decide +kernel
theorem d3_4 : decode prog_33_method_5_code 4 = .ok (.ifCond .le 17, 3) := by decide +kernel
theorem d3_21 : decode prog_33_method_5_code 21 = .ok (.dconst 0, 1) := by decide +kernel
theorem d3_22 : decode prog_33_method_5_code 22 = .ok (.dreturn, 1) := by decide +kernel
theorem ef_avg0 (m : MethodId) (x0 : Addr) : entryFrame m #[(.ref x0)] 1 = mkF m 0 #[.val (.ref x0)] [] := by first | (simp [entryFrame, mkF, argsToLocals, Value.category]; done) | rfl
def Q_avg0 (Z : State) (a1 : Addr) (pd : Int32) (pt : Int64) (h0 : Heap) (n0 : Nat) (v : Option Value) (h : Heap) (L : List Loc) : Prop := v = some (.double FP.dconst0) ∧ Fr n0 L ∧ (h = h0)
set_option maxRecDepth 65536 in
set_option maxHeartbeats 40000000 in
theorem avg0 (l : Launch) (Z : State) (a0 : Array Value) (hw : ∀ d ∈ tables_1, d.before a0 Z = true) (ws : List Jvm.Cond) (a1 : Addr) (pd : Int32) (pt : Int64) (h0 : Heap) (n0 : Nat) (Z0 : n0 ≤ h0.size) (F_d : Fld Z h0 a1 "com/example/hanap/hanap/index/IndexStatistics" "documents" "I" (.int pd)) (F_t : Fld Z h0 a1 "com/example/hanap/hanap/index/IndexStatistics" "tokens" "J" (.long pt)) (hp : ¬ (0 : Int32) < pd) :
    MetFree l (⟨"com/example/hanap/hanap/index/IndexStatistics", "getAverageDocumentLength", "()D"⟩ : MethodName) (head1 (Jvm.Cond.code (⟨"com/example/hanap/hanap/index/IndexStatistics", "getAverageDocumentLength", "()D"⟩ : MethodName) prog_33_method_5_code 1 (some .double) :: ws) ({ frames := 0, cells := 0, slots := 0, locals := 0 } : Room)) (fun a U => a = #[(.ref a1)] ∧ Z.Warmed39 U.vm ∧ U.heap = h0) (fun _ _ _ _ _ => True) (fun _ U o U' => ∃ v L, o = .returned v ∧ Q_avg0 Z a1 pd pt h0 n0 v U'.heap L ∧ FrameEnd U o U' L ({ frames := 0, cells := 0, slots := 0, locals := 0 } : Room).cells ({ frames := 0, cells := 0, slots := 0, locals := 0 } : Room).slots) := by
  refine MetFree.of_bodySF (plainFor_of_name pn_com_example_hanap_hanap_index_IndexStatistics) hisR ?_
  intro p e s m args below meth c s₁ Bd hml0 hP hK
  obtain ⟨rfl, hZ, hh⟩ := hP
  have hx := Bd.exec
  have hby := Bd.bytes
  have hml : c.maxLocals = 1 := hml0
  have hown : s.vm.findClass "com/example/hanap/hanap/index/IndexStatistics" = some m.cls := findClass_of_methodNamed Bd.named
  have hnm := (name_of_methodNamed Bd.named Bd.method).1
  have hret : meth.sig.returnType = (some .double) := Bd.returns
  have hlk : meth.locks = false := BodyLoose.notSynchronized Bd
  have X0 : Stand p l e ({ frames := 0, cells := 0, slots := 0, locals := 0 } : Room) s m #[(.ref a1)] below meth c s₁ [] 0 0 := Stand.of_body Bd
  have e0 : s₁.heap = h0 := by rw [← hh, Bd.state]; rfl
  have N0 := Fr.nil n0
  have K0 : Keep h0 h0 [] := Keep.refl h0 _
  show Gl p.tables e below s (Q_avg0 Z a1 pd pt h0 n0) 0 0 _
  refine Gl.pre (B := s₁.setTop (mkF m 0 #[.val (.ref a1)] [])) (fun _ k => castTop (ef_avg0 m a1) k) ?_
  refine Gl.pre (B := s₁.setTop (mkF m 1 #[.val (.ref a1)] [(.ref a1)])) (fun _ k => XS.aloadN X0.here hx rfl (hb hby d3_0) rfl rfl k) ?_
  obtain ⟨T1, X1, e1, st1⟩ := getF X0 hx hZ hown (host := "") (Or.inl (wq hw 9 rfl)) Via.refl e0 F_d (g := (mkF m 1 #[.val (.ref a1)] [(.ref a1)])) rfl rfl (hb hby d3_1)
  refine Gl.pre (B := T1.setTop (mkF m 22 #[.val (.ref a1)] [(.double FP.dconst0)])) (fun _ k => st1 _ (XS.ifYes X1.here hx rfl (pc0 := 4) (pc' := 21) rfl (hb hby d3_4) rfl ((if0 _ _).trans (flt (hp : ¬ ((0 : Int32) < pd))).2.2.2) (by decide) (by decide) (XS.dconst0 X1.here hx rfl (hb hby d3_21) rfl k))) ?_
  refine Gl.out X1 (v := some (.double FP.dconst0)) (fun h => by rw [hret] at h; cases h) hlk (fun fs hr => retOut X1 hx hret rfl (Or.inr (Or.inr (Or.inl ⟨rfl, rfl, _, rfl⟩))) (hb hby d3_22) hr) ?_ (by decide) (by decide)
  show Q_avg0 Z _ _ _ h0 n0 _ T1.heap _
  rw [e1]
  exact ⟨rfl, N0, rfl⟩
theorem d3_7 : decode prog_33_method_5_code 7 = .ok (.aload_n 0, 1) := by decide +kernel
theorem d3_8 : decode prog_33_method_5_code 8 = .ok (.getfield 16, 3) := by decide +kernel
theorem d3_11 : decode prog_33_method_5_code 11 = .ok (.l2d, 1) := by decide +kernel
theorem d3_12 : decode prog_33_method_5_code 12 = .ok (.aload_n 0, 1) := by decide +kernel
theorem d3_13 : decode prog_33_method_5_code 13 = .ok (.getfield 7, 3) := by decide +kernel
theorem d3_16 : decode prog_33_method_5_code 16 = .ok (.i2d, 1) := by decide +kernel
theorem d3_17 : decode prog_33_method_5_code 17 = .ok (.ddiv, 1) := by decide +kernel
theorem d3_18 : decode prog_33_method_5_code 18 = .ok (.goto 4, 3) := by decide +kernel
theorem ef_avgN (m : MethodId) (x0 : Addr) : entryFrame m #[(.ref x0)] 1 = mkF m 0 #[.val (.ref x0)] [] := by first | (simp [entryFrame, mkF, argsToLocals, Value.category]; done) | rfl
def Q_avgN (Z : State) (a1 : Addr) (pd : Int32) (pt : Int64) (h0 : Heap) (n0 : Nat) (v : Option Value) (h : Heap) (L : List Loc) : Prop := v = some (.double (FP.ddiv (FP.l2d pt) (FP.i2d pd))) ∧ Fr n0 L ∧ (h = h0)
set_option maxRecDepth 65536 in
set_option maxHeartbeats 40000000 in
theorem avgN (l : Launch) (Z : State) (a0 : Array Value) (hw : ∀ d ∈ tables_1, d.before a0 Z = true) (ws : List Jvm.Cond) (a1 : Addr) (pd : Int32) (pt : Int64) (h0 : Heap) (n0 : Nat) (Z0 : n0 ≤ h0.size) (F_d : Fld Z h0 a1 "com/example/hanap/hanap/index/IndexStatistics" "documents" "I" (.int pd)) (F_t : Fld Z h0 a1 "com/example/hanap/hanap/index/IndexStatistics" "tokens" "J" (.long pt)) (hp : (0 : Int32) < pd) (hn : Jvm.Free.Fl.NoNaN64 (FP.ddiv (FP.l2d pt) (FP.i2d pd))) :
    MetFree l (⟨"com/example/hanap/hanap/index/IndexStatistics", "getAverageDocumentLength", "()D"⟩ : MethodName) (head1 (Jvm.Cond.code (⟨"com/example/hanap/hanap/index/IndexStatistics", "getAverageDocumentLength", "()D"⟩ : MethodName) prog_33_method_5_code 1 (some .double) :: ws) ({ frames := 0, cells := 0, slots := 0, locals := 0 } : Room)) (fun a U => a = #[(.ref a1)] ∧ Z.Warmed39 U.vm ∧ U.heap = h0) (fun _ _ _ _ _ => True) (fun _ U o U' => ∃ v L, o = .returned v ∧ Q_avgN Z a1 pd pt h0 n0 v U'.heap L ∧ FrameEnd U o U' L ({ frames := 0, cells := 0, slots := 0, locals := 0 } : Room).cells ({ frames := 0, cells := 0, slots := 0, locals := 0 } : Room).slots) := by
  refine MetFree.of_bodySF (plainFor_of_name pn_com_example_hanap_hanap_index_IndexStatistics) hisR ?_
  intro p e s m args below meth c s₁ Bd hml0 hP hK
  obtain ⟨rfl, hZ, hh⟩ := hP
  have hx := Bd.exec
  have hby := Bd.bytes
  have hml : c.maxLocals = 1 := hml0
  have hown : s.vm.findClass "com/example/hanap/hanap/index/IndexStatistics" = some m.cls := findClass_of_methodNamed Bd.named
  have hnm := (name_of_methodNamed Bd.named Bd.method).1
  have hret : meth.sig.returnType = (some .double) := Bd.returns
  have hlk : meth.locks = false := BodyLoose.notSynchronized Bd
  have X0 : Stand p l e ({ frames := 0, cells := 0, slots := 0, locals := 0 } : Room) s m #[(.ref a1)] below meth c s₁ [] 0 0 := Stand.of_body Bd
  have e0 : s₁.heap = h0 := by rw [← hh, Bd.state]; rfl
  have N0 := Fr.nil n0
  have K0 : Keep h0 h0 [] := Keep.refl h0 _
  show Gl p.tables e below s (Q_avgN Z a1 pd pt h0 n0) 0 0 _
  refine Gl.pre (B := s₁.setTop (mkF m 0 #[.val (.ref a1)] [])) (fun _ k => castTop (ef_avgN m a1) k) ?_
  refine Gl.pre (B := s₁.setTop (mkF m 1 #[.val (.ref a1)] [(.ref a1)])) (fun _ k => XS.aloadN X0.here hx rfl (hb hby d3_0) rfl rfl k) ?_
  obtain ⟨T1, X1, e1, st1⟩ := getF X0 hx hZ hown (host := "") (Or.inl (wq hw 9 rfl)) Via.refl e0 F_d (g := (mkF m 1 #[.val (.ref a1)] [(.ref a1)])) rfl rfl (hb hby d3_1)
  refine Gl.pre (B := T1.setTop (mkF m 8 #[.val (.ref a1)] [(.ref a1)])) (fun _ k => st1 _ (XS.ifNo X1.here hx rfl (hb hby d3_4) rfl ((if0 _ _).trans (tlt (hp : (0 : Int32) < pd)).2.2.2) (XS.aloadN X1.here hx rfl (hb hby d3_7) rfl rfl k))) ?_
  obtain ⟨T2, X2, e2, st2⟩ := getF X1 hx hZ hown (host := "") (Or.inl (wq hw 13 rfl)) Via.refl e1 F_t (g := (mkF m 8 #[.val (.ref a1)] [(.ref a1)])) rfl rfl (hb hby d3_8)
  refine Gl.pre (B := T2.setTop (mkF m 13 #[.val (.ref a1)] [(.ref a1), (.double (FP.l2d pt))])) (fun _ k => st2 _ (XS.l2dS X2.here hx rfl (hb hby d3_11) rfl rfl (XS.aloadN X2.here hx rfl (hb hby d3_12) rfl rfl k))) ?_
  obtain ⟨T3, X3, e3, st3⟩ := getF X2 hx hZ hown (host := "") (Or.inl (wq hw 9 rfl)) Via.refl e2 F_d (g := (mkF m 13 #[.val (.ref a1)] [(.ref a1), (.double (FP.l2d pt))])) rfl rfl (hb hby d3_13)
  refine Gl.pre (B := T3.setTop (mkF m 22 #[.val (.ref a1)] [(.double (FP.ddiv (FP.l2d pt) (FP.i2d pd)))])) (fun _ k => st3 _ (XS.i2dS X3.here hx rfl (hb hby d3_16) rfl rfl (XS.ddivS X3.here hx rfl (hb hby d3_17) rfl hn rfl (XS.goto X3.here hx rfl (pc0 := 18) (pc' := 22) rfl (hb hby d3_18) (by decide) (by decide) k)))) ?_
  refine Gl.out X3 (v := some (.double (FP.ddiv (FP.l2d pt) (FP.i2d pd)))) (fun h => by rw [hret] at h; cases h) hlk (fun fs hr => retOut X3 hx hret rfl (Or.inr (Or.inr (Or.inl ⟨rfl, rfl, _, rfl⟩))) (hb hby d3_22) hr) ?_ (by decide) (by decide)
  show Q_avgN Z _ _ _ h0 n0 _ T3.heap _
  rw [e3]
  exact ⟨rfl, N0, rfl⟩
theorem fl_pos {d : Int32} (hd : 1 ≤ d.toInt ∧ d.toInt ≤ 1048576) : (0 : Int32) < d := by
  rw [Int32.lt_iff_toInt_lt]
  have e : (0 : Int32).toInt = 0 := rfl
  omega
theorem fl_neg {p : Int32} (h : (0 : Int32) < p) : ¬ (0 : Int32) < (-p) := by
  rw [Int32.lt_iff_toInt_lt] at h ⊢
  have e : (0 : Int32).toInt = 0 := rfl
  rw [e] at h ⊢
  have h1 := p.toInt_lt
  rw [Int32.toInt_neg, Int.bmod_eq_of_le (by omega) (by omega)]
  omega
theorem fl_nz {x d : Int32} (h : ((x &&& (1048575 : Int32)) + (1 : Int32)) = d) : d ≠ 0 := fun z => by
  have q := fl_d h
  rw [z] at q
  have e : (0 : Int32).toInt = 0 := rfl
  omega
theorem pd_0 : parseMethodDescriptor "(IIJ)V" = some ⟨[.int, .int, .long], none⟩ := by decide +kernel
theorem pd_1 : parseMethodDescriptor "()D" = some ⟨[], some .double⟩ := by decide +kernel
theorem pn_com_example_hanap_hanap_index_IndexStatisticsGetAverageDocumentLengthPinLaw : plainName "com/example/hanap/hanap/index/IndexStatisticsGetAverageDocumentLengthPinLaw" = true := by first | (simp [plainName, overriddenIn]; done) | decide +kernel
theorem ef_rm0 (m : MethodId) (x0 : Int32) (x1 : Int64) (x2 : Int32) (x3 : Int32) (x4 : Int32) (x5 : Int32) : entryFrame m #[(.int x0), (.long x1), (.int x2), (.int x3), (.int x4), (.int x5)] maxLocals = mkF m 0 #[.val (.int x0), .val (.long x1), .second, .val (.int x2), .val (.int x3), .val (.int x4), .val (.int x5), .unset, .unset, .unset, .unset, .unset, .unset, .unset, .unset, .unset, .unset, .unset, .unset, .unset, .unset, .unset, .unset] [] := by first | (simp [entryFrame, mkF, argsToLocals, Value.category, maxLocals]; done) | rfl
def Q_rm0 (Z : State) (p1 : Int32) (p2 : Int64) (p3 : Int32) (p4 : Int32) (p5 : Int32) (p6 : Int32) (h0 : Heap) (n0 : Nat) (v : Option Value) (h : Heap) (L : List Loc) : Prop := v = some (.int (1 : Int32)) ∧ Fr n0 L
set_option maxRecDepth 65536 in
set_option maxHeartbeats 40000000 in
theorem rm0 (l : Launch) (Z : State) (a0 : Array Value) (hw : ∀ d ∈ tables_1, d.before a0 Z = true) (ws : List Jvm.Cond) (p1 : Int32) (p2 : Int64) (p3 : Int32) (p4 : Int32) (p5 : Int32) (p6 : Int32) (h0 : Heap) (n0 : Nat) (Z0 : n0 ≤ h0.size)  :
    MetFree l x (head1 (Jvm.Cond.code x code maxLocals ret :: ws) room_1) (fun a U => a = #[(.int p1), (.long p2), (.int p3), (.int p4), (.int p5), (.int p6)] ∧ Z.Warmed39 U.vm ∧ U.heap = h0) (fun _ _ _ _ _ => True) (fun _ U o U' => ∃ v L, o = .returned v ∧ Q_rm0 Z p1 p2 p3 p4 p5 p6 h0 n0 v U'.heap L ∧ FrameEnd U o U' L room_1.cells room_1.slots) := by
  refine MetFree.of_bodySF (plainFor_of_name pn_com_example_hanap_hanap_index_IndexStatisticsGetAverageDocumentLengthPinLaw) hisR ?_
  intro p e s m args below meth c s₁ Bd hml0 hP hK
  obtain ⟨rfl, hZ, hh⟩ := hP
  have hx := Bd.exec
  have hby := Bd.bytes
  have hml : c.maxLocals = 23 := hml0
  have hown : s.vm.findClass "com/example/hanap/hanap/index/IndexStatisticsGetAverageDocumentLengthPinLaw" = some m.cls := findClass_of_methodNamed Bd.named
  have hnm := (name_of_methodNamed Bd.named Bd.method).1
  have hret : meth.sig.returnType = (some .boolean) := Bd.returns
  have hlk : meth.locks = false := BodyLoose.notSynchronized Bd
  have X0 : Stand p l e room_1 s m #[(.int p1), (.long p2), (.int p3), (.int p4), (.int p5), (.int p6)] below meth c s₁ [] 0 0 := Stand.of_body Bd
  have e0 : s₁.heap = h0 := by rw [← hh, Bd.state]; rfl
  have N0 := Fr.nil n0
  show Gl p.tables e below s (Q_rm0 Z p1 p2 p3 p4 p5 p6 h0 n0) 16 128 _
  refine Gl.pre (B := s₁.setTop (mkF m 0 #[.val (.int p1), .val (.long p2), .second, .val (.int p3), .val (.int p4), .val (.int p5), .val (.int p6), .unset, .unset, .unset, .unset, .unset, .unset, .unset, .unset, .unset, .unset, .unset, .unset, .unset, .unset, .unset, .unset] [])) (fun _ k => castTop (ef_rm0 m p1 p2 p3 p4 p5 p6) k) ?_
  refine Gl.pre (B := s₁.setTop (mkF m 8 #[.val (.int p1), .val (.long p2), .second, .val (.int p3), .val (.int p4), .val (.int p5), .val (.int p6), .val (.int (p6 &&& (3 : Int32))), .unset, .unset, .unset, .unset, .unset, .unset, .unset, .unset, .unset, .unset, .unset, .unset, .unset, .unset, .unset] [(.int (p6 &&& (3 : Int32)))])) (fun _ k => XS.iload X0.here hx rfl (hb hby at_0) rfl (XS.iconst X0.here hx rfl (hb hby at_2) (XS.iand X0.here hx rfl (hb hby at_3) rfl (XS.istore X0.here hx rfl (hb hby at_4) rfl (l' := #[.val (.int p1), .val (.long p2), .second, .val (.int p3), .val (.int p4), .val (.int p5), .val (.int p6), .val (.int (p6 &&& (3 : Int32))), .unset, .unset, .unset, .unset, .unset, .unset, .unset, .unset, .unset, .unset, .unset, .unset, .unset, .unset, .unset]) rfl (XS.iload X0.here hx rfl (hb hby at_6) rfl k))))) ?_
  by_cases hc8_1 : (p6 &&& (3 : Int32)) = (0 : Int32)
  · refine Gl.pre (B := s₁.setTop (mkF m 12 #[.val (.int p1), .val (.long p2), .second, .val (.int p3), .val (.int p4), .val (.int p5), .val (.int p6), .val (.int (p6 &&& (3 : Int32))), .unset, .unset, .unset, .unset, .unset, .unset, .unset, .unset, .unset, .unset, .unset, .unset, .unset, .unset, .unset] [(.int p1)])) (fun _ k => XS.ifNo X0.here hx rfl (hb hby at_8) rfl ((if0 _ _).trans (teq hc8_1).2) (XS.iloadN X0.here hx rfl (hb hby at_11) rfl k)) ?_
    by_cases hc12_2 : (0 : Int32) < p1
    · refine Gl.pre (B := s₁.setTop (mkF m 23 #[.val (.int p1), .val (.long p2), .second, .val (.int p3), .val (.int p4), .val (.int p5), .val (.int p6), .val (.int (p6 &&& (3 : Int32))), .val (.int (-p1)), .unset, .unset, .unset, .unset, .unset, .unset, .unset, .unset, .unset, .unset, .unset, .unset, .unset, .unset] [])) (fun _ k => XS.ifNo X0.here hx rfl (hb hby at_12) rfl ((if0 _ _).trans (tlt hc12_2).2.2.2) (XS.iloadN X0.here hx rfl (hb hby at_15) rfl (XS.ineg X0.here hx rfl (hb hby at_16) rfl (XS.goto X0.here hx rfl (pc0 := 17) (pc' := 21) rfl (hb hby at_17) (by decide) (by decide) (XS.istore X0.here hx rfl (hb hby at_21) rfl (l' := #[.val (.int p1), .val (.long p2), .second, .val (.int p3), .val (.int p4), .val (.int p5), .val (.int p6), .val (.int (p6 &&& (3 : Int32))), .val (.int (-p1)), .unset, .unset, .unset, .unset, .unset, .unset, .unset, .unset, .unset, .unset, .unset, .unset, .unset, .unset]) rfl k))))) ?_
      obtain ⟨T3, h3, X3, e3, E3, A3, D3, -, st3⟩ := newO X0 hx hZ hown (wq hw 0 rfl) (wq hw 1 rfl) (wq hw 2 rfl) e0 (g := (mkF m 23 #[.val (.int p1), .val (.long p2), .second, .val (.int p3), .val (.int p4), .val (.int p5), .val (.int p6), .val (.int (p6 &&& (3 : Int32))), .val (.int (-p1)), .unset, .unset, .unset, .unset, .unset, .unset, .unset, .unset, .unset, .unset, .unset, .unset, .unset, .unset] [])) rfl (hb hby at_23) (by decide) (by decide)
      obtain ⟨b3, g3⟩ : ∃ z, z = h0.size := ⟨_, rfl⟩
      rw [← g3] at A3 D3 st3
      have g_b3 : n0 ≤ b3 := Nat.le_trans Z0 (Nat.le_of_eq g3.symm)
      have Z0 := Nat.le_trans Z0 E3.1
      have E_b3 := A3
      have F_documents_b3 : Fld Z h3 b3 "com/example/hanap/hanap/index/IndexStatistics" "documents" "I" (.int (0 : Int32)) := D3 (Or.inr (wq hw 10 rfl)) (ty := .int) (by decide)
      have F_terms_b3 : Fld Z h3 b3 "com/example/hanap/hanap/index/IndexStatistics" "terms" "I" (.int (0 : Int32)) := D3 (Or.inr (wq hw 12 rfl)) (ty := .int) (by decide)
      have F_tokens_b3 : Fld Z h3 b3 "com/example/hanap/hanap/index/IndexStatistics" "tokens" "J" (.long (0 : Int64)) := D3 (Or.inr (wq hw 14 rfl)) (ty := .long) (by decide)
      refine Gl.pre (B := T3.setTop (mkF m 32 #[.val (.int p1), .val (.long p2), .second, .val (.int p3), .val (.int p4), .val (.int p5), .val (.int p6), .val (.int (p6 &&& (3 : Int32))), .val (.int (-p1)), .unset, .unset, .unset, .unset, .unset, .unset, .unset, .unset, .unset, .unset, .unset, .unset, .unset, .unset] [(.long p2), (.int p5), (.int (-p1)), (.ref b3), (.ref b3)])) (fun _ k => st3 _ (XS.dup X3.here hx rfl (hb hby at_26) rfl rfl (XS.iload X3.here hx rfl (hb hby at_27) rfl (XS.iload X3.here hx rfl (hb hby at_29) rfl (XS.lloadN X3.here hx rfl (hb hby at_31) rfl k))))) ?_
      obtain ⟨rv4, _, ⟨T4, L4, k4, n4⟩, -, X4, ⟨Lc4, hQ4, l4, y4, z4⟩, st4⟩ := X3.specialBack hx (y := (⟨"com/example/hanap/hanap/index/IndexStatistics", "<init>", "(IIJ)V"⟩ : MethodName)) rfl hown (mvT hZ (wq hw 3 rfl)) (mvT hZ (wq hw 4 rfl)) (mvT hZ (wq hw 5 rfl)) (by decide) (backOf (W := 1) (ctor l Z a0 hw [] b3 (-p1) p5 p2 h3 n0 Z0 g_b3 E_b3 F_documents_b3 F_terms_b3 F_tokens_b3) hZ (wq hw 5 rfl) (wq hw 2 rfl) (by decide) (by decide)) (g := (mkF m 32 #[.val (.int p1), .val (.long p2), .second, .val (.int p3), .val (.int p4), .val (.int p5), .val (.int p6), .val (.int (p6 &&& (3 : Int32))), .val (.int (-p1)), .unset, .unset, .unset, .unset, .unset, .unset, .unset, .unset, .unset, .unset, .unset, .unset, .unset, .unset] [(.long p2), (.int p5), (.int (-p1)), (.ref b3), (.ref b3)])) rfl (by rw [hml]; rfl) (Steps.refl _) (a := b3) (argsL := [(.int (-p1)), (.int p5), (.long p2)]) (rest := [(.ref b3)]) (lenOf pd_0 rfl) rfl (by show 2 * 0 + _ ≤ _; exact Nat.le_of_eq rfl) (hb hby at_32) (fun _ _ => ⟨rfl, e3, (by decide : 1 + 0 ≤ _), (by decide : 3 + 0 ≤ _)⟩)
      dsimp only [Pt.U, Pt.locs, Pt.cells, Pt.slots] at X4 l4 y4 z4 st4 hQ4
      have X4 := own_reb X4 l4 y4 z4
      obtain ⟨rfl, N4q, K4, F_d_4, F_t_4⟩ := hQ4
      have N4 := Fr.app N0 N4q
      have Z0 := Nat.le_trans Z0 K4.1
      have E_b3 := E_b3.keep K4
      refine Gl.pre (B := T4.setTop (mkF m 39 #[.val (.int p1), .val (.long p2), .second, .val (.int p3), .val (.int p4), .val (.int p5), .val (.int p6), .val (.int (p6 &&& (3 : Int32))), .val (.int (-p1)), .val (.ref b3), .unset, .unset, .unset, .unset, .unset, .unset, .unset, .unset, .unset, .unset, .unset, .unset, .unset] [(.ref b3)])) (fun _ k => st4.trans (XS.astore X4.here hx rfl (hb hby at_35) rfl rfl (l' := #[.val (.int p1), .val (.long p2), .second, .val (.int p3), .val (.int p4), .val (.int p5), .val (.int p6), .val (.int (p6 &&& (3 : Int32))), .val (.int (-p1)), .val (.ref b3), .unset, .unset, .unset, .unset, .unset, .unset, .unset, .unset, .unset, .unset, .unset, .unset, .unset]) rfl (XS.aload X4.here hx rfl (hb hby at_37) rfl rfl k))) ?_
      obtain ⟨cq5, kq5, q5a, q5b, q5c⟩ := isOf hZ rfl E_b3
      obtain ⟨rv5, _, ⟨T5, L5, k5, n5⟩, -, X5, ⟨Lc5, hQ5, l5, y5, z5⟩, st5⟩ := X4.virtualBack hx (y := (⟨"com/example/hanap/hanap/index/IndexStatistics", "getAverageDocumentLength", "()D"⟩ : MethodName)) (z := (⟨"com/example/hanap/hanap/index/IndexStatistics", "getAverageDocumentLength", "()D"⟩ : MethodName)) hown (mvT hZ (wq hw 15 rfl)) (mvT hZ (wq hw 16 rfl)) (notFace_of_selects (args := #[]) (mvT hZ (wq hw 18 rfl))) (mvT hZ (wq hw 18 rfl)) (mvT hZ (wq hw 17 rfl)) (by decide) (backOf (W := 0) (avg0 l Z a0 hw [] b3 (-p1) p2 T4.heap n0 Z0 F_d_4 F_t_4 (fl_neg hc12_2)) hZ (wq hw 19 rfl) (wq hw 2 rfl) (by decide) (by decide)) q5a q5c (g := (mkF m 39 #[.val (.int p1), .val (.long p2), .second, .val (.int p3), .val (.int p4), .val (.int p5), .val (.int p6), .val (.int (p6 &&& (3 : Int32))), .val (.int (-p1)), .val (.ref b3), .unset, .unset, .unset, .unset, .unset, .unset, .unset, .unset, .unset, .unset, .unset, .unset, .unset] [(.ref b3)])) rfl (by rw [hml]; rfl) (Steps.refl _) (argsL := []) (rest := []) (lenOf pd_1 rfl) rfl (by show 2 * 0 + _ ≤ _; exact Nat.le_of_eq rfl) (hb hby at_39) (fun _ _ => ⟨rfl, rfl, (by decide : 1 + 0 ≤ _), (by decide : 3 + 0 ≤ _)⟩)
      dsimp only [Pt.U, Pt.locs, Pt.cells, Pt.slots] at X5 l5 y5 z5 st5 hQ5
      have X5 := own_reb X5 l5 y5 z5
      obtain ⟨rfl, N5q, e5⟩ := hQ5
      have N5 := Fr.app N4 N5q
      refine Gl.pre (B := T5.setTop (mkF m 52 #[.val (.int p1), .val (.long p2), .second, .val (.int p3), .val (.int p4), .val (.int p5), .val (.int p6), .val (.int (p6 &&& (3 : Int32))), .val (.int (-p1)), .val (.ref b3), .unset, .unset, .unset, .unset, .unset, .unset, .unset, .unset, .unset, .unset, .unset, .unset, .unset] [(.int (1 : Int32))])) (fun _ k => st5.trans (XS.dconst0 X5.here hx rfl (hb hby at_42) rfl (XS.dcmpS X5.here hx rfl (hb hby at_43) rfl rfl (XS.ifNo X5.here hx rfl (hb hby at_44) rfl ((if0 _ _).trans (teq (fl_c0 : (cmpValue (FP.dcmp FP.dconst0 FP.dconst0) .l) = (0 : Int32))).2) (XS.iconst X5.here hx rfl (hb hby at_47) (XS.goto X5.here hx rfl (pc0 := 48) (pc' := 52) rfl (hb hby at_48) (by decide) (by decide) k)))))) ?_
      refine Gl.out X5 (v := some (.int (1 : Int32))) (fun h => by rw [hret] at h; cases h) hlk (fun fs hr => retN X5 hx (t := .boolean) hret (by simp) (hb hby at_52) hr) ?_ (by decide) (by decide)
      show Q_rm0 Z _ _ _ _ _ _ h0 n0 _ T5.heap _
      rw [e5]
      exact ⟨rfl, N5⟩
    · refine Gl.pre (B := s₁.setTop (mkF m 23 #[.val (.int p1), .val (.long p2), .second, .val (.int p3), .val (.int p4), .val (.int p5), .val (.int p6), .val (.int (p6 &&& (3 : Int32))), .val (.int p1), .unset, .unset, .unset, .unset, .unset, .unset, .unset, .unset, .unset, .unset, .unset, .unset, .unset, .unset] [])) (fun _ k => XS.ifYes X0.here hx rfl (pc0 := 12) (pc' := 20) rfl (hb hby at_12) rfl ((if0 _ _).trans (flt hc12_2).2.2.2) (by decide) (by decide) (XS.iloadN X0.here hx rfl (hb hby at_20) rfl (XS.istore X0.here hx rfl (hb hby at_21) rfl (l' := #[.val (.int p1), .val (.long p2), .second, .val (.int p3), .val (.int p4), .val (.int p5), .val (.int p6), .val (.int (p6 &&& (3 : Int32))), .val (.int p1), .unset, .unset, .unset, .unset, .unset, .unset, .unset, .unset, .unset, .unset, .unset, .unset, .unset, .unset]) rfl k))) ?_
      obtain ⟨T6, h6, X6, e6, E6, A6, D6, -, st6⟩ := newO X0 hx hZ hown (wq hw 0 rfl) (wq hw 1 rfl) (wq hw 2 rfl) e0 (g := (mkF m 23 #[.val (.int p1), .val (.long p2), .second, .val (.int p3), .val (.int p4), .val (.int p5), .val (.int p6), .val (.int (p6 &&& (3 : Int32))), .val (.int p1), .unset, .unset, .unset, .unset, .unset, .unset, .unset, .unset, .unset, .unset, .unset, .unset, .unset, .unset] [])) rfl (hb hby at_23) (by decide) (by decide)
      obtain ⟨b6, g6⟩ : ∃ z, z = h0.size := ⟨_, rfl⟩
      rw [← g6] at A6 D6 st6
      have g_b6 : n0 ≤ b6 := Nat.le_trans Z0 (Nat.le_of_eq g6.symm)
      have Z0 := Nat.le_trans Z0 E6.1
      have E_b6 := A6
      have F_documents_b6 : Fld Z h6 b6 "com/example/hanap/hanap/index/IndexStatistics" "documents" "I" (.int (0 : Int32)) := D6 (Or.inr (wq hw 10 rfl)) (ty := .int) (by decide)
      have F_terms_b6 : Fld Z h6 b6 "com/example/hanap/hanap/index/IndexStatistics" "terms" "I" (.int (0 : Int32)) := D6 (Or.inr (wq hw 12 rfl)) (ty := .int) (by decide)
      have F_tokens_b6 : Fld Z h6 b6 "com/example/hanap/hanap/index/IndexStatistics" "tokens" "J" (.long (0 : Int64)) := D6 (Or.inr (wq hw 14 rfl)) (ty := .long) (by decide)
      refine Gl.pre (B := T6.setTop (mkF m 32 #[.val (.int p1), .val (.long p2), .second, .val (.int p3), .val (.int p4), .val (.int p5), .val (.int p6), .val (.int (p6 &&& (3 : Int32))), .val (.int p1), .unset, .unset, .unset, .unset, .unset, .unset, .unset, .unset, .unset, .unset, .unset, .unset, .unset, .unset] [(.long p2), (.int p5), (.int p1), (.ref b6), (.ref b6)])) (fun _ k => st6 _ (XS.dup X6.here hx rfl (hb hby at_26) rfl rfl (XS.iload X6.here hx rfl (hb hby at_27) rfl (XS.iload X6.here hx rfl (hb hby at_29) rfl (XS.lloadN X6.here hx rfl (hb hby at_31) rfl k))))) ?_
      obtain ⟨rv7, _, ⟨T7, L7, k7, n7⟩, -, X7, ⟨Lc7, hQ7, l7, y7, z7⟩, st7⟩ := X6.specialBack hx (y := (⟨"com/example/hanap/hanap/index/IndexStatistics", "<init>", "(IIJ)V"⟩ : MethodName)) rfl hown (mvT hZ (wq hw 3 rfl)) (mvT hZ (wq hw 4 rfl)) (mvT hZ (wq hw 5 rfl)) (by decide) (backOf (W := 1) (ctor l Z a0 hw [] b6 p1 p5 p2 h6 n0 Z0 g_b6 E_b6 F_documents_b6 F_terms_b6 F_tokens_b6) hZ (wq hw 5 rfl) (wq hw 2 rfl) (by decide) (by decide)) (g := (mkF m 32 #[.val (.int p1), .val (.long p2), .second, .val (.int p3), .val (.int p4), .val (.int p5), .val (.int p6), .val (.int (p6 &&& (3 : Int32))), .val (.int p1), .unset, .unset, .unset, .unset, .unset, .unset, .unset, .unset, .unset, .unset, .unset, .unset, .unset, .unset] [(.long p2), (.int p5), (.int p1), (.ref b6), (.ref b6)])) rfl (by rw [hml]; rfl) (Steps.refl _) (a := b6) (argsL := [(.int p1), (.int p5), (.long p2)]) (rest := [(.ref b6)]) (lenOf pd_0 rfl) rfl (by show 2 * 0 + _ ≤ _; exact Nat.le_of_eq rfl) (hb hby at_32) (fun _ _ => ⟨rfl, e6, (by decide : 1 + 0 ≤ _), (by decide : 3 + 0 ≤ _)⟩)
      dsimp only [Pt.U, Pt.locs, Pt.cells, Pt.slots] at X7 l7 y7 z7 st7 hQ7
      have X7 := own_reb X7 l7 y7 z7
      obtain ⟨rfl, N7q, K7, F_d_7, F_t_7⟩ := hQ7
      have N7 := Fr.app N0 N7q
      have Z0 := Nat.le_trans Z0 K7.1
      have E_b6 := E_b6.keep K7
      refine Gl.pre (B := T7.setTop (mkF m 39 #[.val (.int p1), .val (.long p2), .second, .val (.int p3), .val (.int p4), .val (.int p5), .val (.int p6), .val (.int (p6 &&& (3 : Int32))), .val (.int p1), .val (.ref b6), .unset, .unset, .unset, .unset, .unset, .unset, .unset, .unset, .unset, .unset, .unset, .unset, .unset] [(.ref b6)])) (fun _ k => st7.trans (XS.astore X7.here hx rfl (hb hby at_35) rfl rfl (l' := #[.val (.int p1), .val (.long p2), .second, .val (.int p3), .val (.int p4), .val (.int p5), .val (.int p6), .val (.int (p6 &&& (3 : Int32))), .val (.int p1), .val (.ref b6), .unset, .unset, .unset, .unset, .unset, .unset, .unset, .unset, .unset, .unset, .unset, .unset, .unset]) rfl (XS.aload X7.here hx rfl (hb hby at_37) rfl rfl k))) ?_
      obtain ⟨cq8, kq8, q8a, q8b, q8c⟩ := isOf hZ rfl E_b6
      obtain ⟨rv8, _, ⟨T8, L8, k8, n8⟩, -, X8, ⟨Lc8, hQ8, l8, y8, z8⟩, st8⟩ := X7.virtualBack hx (y := (⟨"com/example/hanap/hanap/index/IndexStatistics", "getAverageDocumentLength", "()D"⟩ : MethodName)) (z := (⟨"com/example/hanap/hanap/index/IndexStatistics", "getAverageDocumentLength", "()D"⟩ : MethodName)) hown (mvT hZ (wq hw 15 rfl)) (mvT hZ (wq hw 16 rfl)) (notFace_of_selects (args := #[]) (mvT hZ (wq hw 18 rfl))) (mvT hZ (wq hw 18 rfl)) (mvT hZ (wq hw 17 rfl)) (by decide) (backOf (W := 0) (avg0 l Z a0 hw [] b6 p1 p2 T7.heap n0 Z0 F_d_7 F_t_7 hc12_2) hZ (wq hw 19 rfl) (wq hw 2 rfl) (by decide) (by decide)) q8a q8c (g := (mkF m 39 #[.val (.int p1), .val (.long p2), .second, .val (.int p3), .val (.int p4), .val (.int p5), .val (.int p6), .val (.int (p6 &&& (3 : Int32))), .val (.int p1), .val (.ref b6), .unset, .unset, .unset, .unset, .unset, .unset, .unset, .unset, .unset, .unset, .unset, .unset, .unset] [(.ref b6)])) rfl (by rw [hml]; rfl) (Steps.refl _) (argsL := []) (rest := []) (lenOf pd_1 rfl) rfl (by show 2 * 0 + _ ≤ _; exact Nat.le_of_eq rfl) (hb hby at_39) (fun _ _ => ⟨rfl, rfl, (by decide : 1 + 0 ≤ _), (by decide : 3 + 0 ≤ _)⟩)
      dsimp only [Pt.U, Pt.locs, Pt.cells, Pt.slots] at X8 l8 y8 z8 st8 hQ8
      have X8 := own_reb X8 l8 y8 z8
      obtain ⟨rfl, N8q, e8⟩ := hQ8
      have N8 := Fr.app N7 N8q
      refine Gl.pre (B := T8.setTop (mkF m 52 #[.val (.int p1), .val (.long p2), .second, .val (.int p3), .val (.int p4), .val (.int p5), .val (.int p6), .val (.int (p6 &&& (3 : Int32))), .val (.int p1), .val (.ref b6), .unset, .unset, .unset, .unset, .unset, .unset, .unset, .unset, .unset, .unset, .unset, .unset, .unset] [(.int (1 : Int32))])) (fun _ k => st8.trans (XS.dconst0 X8.here hx rfl (hb hby at_42) rfl (XS.dcmpS X8.here hx rfl (hb hby at_43) rfl rfl (XS.ifNo X8.here hx rfl (hb hby at_44) rfl ((if0 _ _).trans (teq (fl_c0 : (cmpValue (FP.dcmp FP.dconst0 FP.dconst0) .l) = (0 : Int32))).2) (XS.iconst X8.here hx rfl (hb hby at_47) (XS.goto X8.here hx rfl (pc0 := 48) (pc' := 52) rfl (hb hby at_48) (by decide) (by decide) k)))))) ?_
      refine Gl.out X8 (v := some (.int (1 : Int32))) (fun h => by rw [hret] at h; cases h) hlk (fun fs hr => retN X8 hx (t := .boolean) hret (by simp) (hb hby at_52) hr) ?_ (by decide) (by decide)
      show Q_rm0 Z _ _ _ _ _ _ h0 n0 _ T8.heap _
      rw [e8]
      exact ⟨rfl, N8⟩
  · refine Gl.pre (B := s₁.setTop (mkF m 56 #[.val (.int p1), .val (.long p2), .second, .val (.int p3), .val (.int p4), .val (.int p5), .val (.int p6), .val (.int (p6 &&& (3 : Int32))), .unset, .unset, .unset, .unset, .unset, .unset, .unset, .unset, .unset, .unset, .unset, .unset, .unset, .unset, .unset] [(.int (1 : Int32)), (.int (p6 &&& (3 : Int32)))])) (fun _ k => XS.ifYes X0.here hx rfl (pc0 := 8) (pc' := 53) rfl (hb hby at_8) rfl ((if0 _ _).trans (feq hc8_1).2) (by decide) (by decide) (XS.iload X0.here hx rfl (hb hby at_53) rfl (XS.iconst X0.here hx rfl (hb hby at_55) k))) ?_
    by_cases hc56_9 : (p6 &&& (3 : Int32)) = (1 : Int32)
    · refine Gl.pre (B := s₁.setTop (mkF m 59 #[.val (.int p1), .val (.long p2), .second, .val (.int p3), .val (.int p4), .val (.int p5), .val (.int p6), .val (.int (p6 &&& (3 : Int32))), .unset, .unset, .unset, .unset, .unset, .unset, .unset, .unset, .unset, .unset, .unset, .unset, .unset, .unset, .unset] [])) (fun _ k => XS.icmpNo X0.here hx rfl (hb hby at_56) rfl (teq hc56_9).2 k) ?_
      obtain ⟨T10, h10, X10, e10, E10, A10, D10, -, st10⟩ := newO X0 hx hZ hown (wq hw 0 rfl) (wq hw 1 rfl) (wq hw 2 rfl) e0 (g := (mkF m 59 #[.val (.int p1), .val (.long p2), .second, .val (.int p3), .val (.int p4), .val (.int p5), .val (.int p6), .val (.int (p6 &&& (3 : Int32))), .unset, .unset, .unset, .unset, .unset, .unset, .unset, .unset, .unset, .unset, .unset, .unset, .unset, .unset, .unset] [])) rfl (hb hby at_59) (by decide) (by decide)
      obtain ⟨b10, g10⟩ : ∃ z, z = h0.size := ⟨_, rfl⟩
      rw [← g10] at A10 D10 st10
      have g_b10 : n0 ≤ b10 := Nat.le_trans Z0 (Nat.le_of_eq g10.symm)
      have Z0 := Nat.le_trans Z0 E10.1
      have E_b10 := A10
      have F_documents_b10 : Fld Z h10 b10 "com/example/hanap/hanap/index/IndexStatistics" "documents" "I" (.int (0 : Int32)) := D10 (Or.inr (wq hw 10 rfl)) (ty := .int) (by decide)
      have F_terms_b10 : Fld Z h10 b10 "com/example/hanap/hanap/index/IndexStatistics" "terms" "I" (.int (0 : Int32)) := D10 (Or.inr (wq hw 12 rfl)) (ty := .int) (by decide)
      have F_tokens_b10 : Fld Z h10 b10 "com/example/hanap/hanap/index/IndexStatistics" "tokens" "J" (.long (0 : Int64)) := D10 (Or.inr (wq hw 14 rfl)) (ty := .long) (by decide)
      refine Gl.pre (B := T10.setTop (mkF m 67 #[.val (.int p1), .val (.long p2), .second, .val (.int p3), .val (.int p4), .val (.int p5), .val (.int p6), .val (.int (p6 &&& (3 : Int32))), .unset, .unset, .unset, .unset, .unset, .unset, .unset, .unset, .unset, .unset, .unset, .unset, .unset, .unset, .unset] [(.long p2), (.int p5), (.int (1 : Int32)), (.ref b10), (.ref b10)])) (fun _ k => st10 _ (XS.dup X10.here hx rfl (hb hby at_62) rfl rfl (XS.iconst X10.here hx rfl (hb hby at_63) (XS.iload X10.here hx rfl (hb hby at_64) rfl (XS.lloadN X10.here hx rfl (hb hby at_66) rfl k))))) ?_
      obtain ⟨rv11, _, ⟨T11, L11, k11, n11⟩, -, X11, ⟨Lc11, hQ11, l11, y11, z11⟩, st11⟩ := X10.specialBack hx (y := (⟨"com/example/hanap/hanap/index/IndexStatistics", "<init>", "(IIJ)V"⟩ : MethodName)) rfl hown (mvT hZ (wq hw 3 rfl)) (mvT hZ (wq hw 4 rfl)) (mvT hZ (wq hw 5 rfl)) (by decide) (backOf (W := 1) (ctor l Z a0 hw [] b10 (1 : Int32) p5 p2 h10 n0 Z0 g_b10 E_b10 F_documents_b10 F_terms_b10 F_tokens_b10) hZ (wq hw 5 rfl) (wq hw 2 rfl) (by decide) (by decide)) (g := (mkF m 67 #[.val (.int p1), .val (.long p2), .second, .val (.int p3), .val (.int p4), .val (.int p5), .val (.int p6), .val (.int (p6 &&& (3 : Int32))), .unset, .unset, .unset, .unset, .unset, .unset, .unset, .unset, .unset, .unset, .unset, .unset, .unset, .unset, .unset] [(.long p2), (.int p5), (.int (1 : Int32)), (.ref b10), (.ref b10)])) rfl (by rw [hml]; rfl) (Steps.refl _) (a := b10) (argsL := [(.int (1 : Int32)), (.int p5), (.long p2)]) (rest := [(.ref b10)]) (lenOf pd_0 rfl) rfl (by show 2 * 0 + _ ≤ _; exact Nat.le_of_eq rfl) (hb hby at_67) (fun _ _ => ⟨rfl, e10, (by decide : 1 + 0 ≤ _), (by decide : 3 + 0 ≤ _)⟩)
      dsimp only [Pt.U, Pt.locs, Pt.cells, Pt.slots] at X11 l11 y11 z11 st11 hQ11
      have X11 := own_reb X11 l11 y11 z11
      obtain ⟨rfl, N11q, K11, F_d_11, F_t_11⟩ := hQ11
      have N11 := Fr.app N0 N11q
      have Z0 := Nat.le_trans Z0 K11.1
      have E_b10 := E_b10.keep K11
      refine Gl.pre (B := T11.setTop (mkF m 74 #[.val (.int p1), .val (.long p2), .second, .val (.int p3), .val (.int p4), .val (.int p5), .val (.int p6), .val (.int (p6 &&& (3 : Int32))), .val (.ref b10), .unset, .unset, .unset, .unset, .unset, .unset, .unset, .unset, .unset, .unset, .unset, .unset, .unset, .unset] [(.ref b10)])) (fun _ k => st11.trans (XS.astore X11.here hx rfl (hb hby at_70) rfl rfl (l' := #[.val (.int p1), .val (.long p2), .second, .val (.int p3), .val (.int p4), .val (.int p5), .val (.int p6), .val (.int (p6 &&& (3 : Int32))), .val (.ref b10), .unset, .unset, .unset, .unset, .unset, .unset, .unset, .unset, .unset, .unset, .unset, .unset, .unset, .unset]) rfl (XS.aload X11.here hx rfl (hb hby at_72) rfl rfl k))) ?_
      obtain ⟨cq12, kq12, q12a, q12b, q12c⟩ := isOf hZ rfl E_b10
      obtain ⟨rv12, _, ⟨T12, L12, k12, n12⟩, -, X12, ⟨Lc12, hQ12, l12, y12, z12⟩, st12⟩ := X11.virtualBack hx (y := (⟨"com/example/hanap/hanap/index/IndexStatistics", "getAverageDocumentLength", "()D"⟩ : MethodName)) (z := (⟨"com/example/hanap/hanap/index/IndexStatistics", "getAverageDocumentLength", "()D"⟩ : MethodName)) hown (mvT hZ (wq hw 15 rfl)) (mvT hZ (wq hw 16 rfl)) (notFace_of_selects (args := #[]) (mvT hZ (wq hw 18 rfl))) (mvT hZ (wq hw 18 rfl)) (mvT hZ (wq hw 17 rfl)) (by decide) (backOf (W := 0) (avgN l Z a0 hw [] b10 (1 : Int32) p2 T11.heap n0 Z0 F_d_11 F_t_11 (by decide) (fl_d1n p2)) hZ (wq hw 19 rfl) (wq hw 2 rfl) (by decide) (by decide)) q12a q12c (g := (mkF m 74 #[.val (.int p1), .val (.long p2), .second, .val (.int p3), .val (.int p4), .val (.int p5), .val (.int p6), .val (.int (p6 &&& (3 : Int32))), .val (.ref b10), .unset, .unset, .unset, .unset, .unset, .unset, .unset, .unset, .unset, .unset, .unset, .unset, .unset, .unset] [(.ref b10)])) rfl (by rw [hml]; rfl) (Steps.refl _) (argsL := []) (rest := []) (lenOf pd_1 rfl) rfl (by show 2 * 0 + _ ≤ _; exact Nat.le_of_eq rfl) (hb hby at_74) (fun _ _ => ⟨rfl, rfl, (by decide : 1 + 0 ≤ _), (by decide : 3 + 0 ≤ _)⟩)
      dsimp only [Pt.U, Pt.locs, Pt.cells, Pt.slots] at X12 l12 y12 z12 st12 hQ12
      have X12 := own_reb X12 l12 y12 z12
      obtain ⟨rfl, N12q, e12⟩ := hQ12
      have N12 := Fr.app N11 N12q
      refine Gl.pre (B := T12.setTop (mkF m 88 #[.val (.int p1), .val (.long p2), .second, .val (.int p3), .val (.int p4), .val (.int p5), .val (.int p6), .val (.int (p6 &&& (3 : Int32))), .val (.ref b10), .unset, .unset, .unset, .unset, .unset, .unset, .unset, .unset, .unset, .unset, .unset, .unset, .unset, .unset] [(.int (1 : Int32))])) (fun _ k => st12.trans (XS.lloadN X12.here hx rfl (hb hby at_77) rfl (XS.l2dS X12.here hx rfl (hb hby at_78) rfl rfl (XS.dcmpS X12.here hx rfl (hb hby at_79) rfl rfl (XS.ifNo X12.here hx rfl (hb hby at_80) rfl ((if0 _ _).trans (teq (fl_c1 p2 : (cmpValue (FP.dcmp (FP.ddiv (FP.l2d p2) (FP.i2d (1 : Int32))) (FP.l2d p2)) .l) = (0 : Int32))).2) (XS.iconst X12.here hx rfl (hb hby at_83) (XS.goto X12.here hx rfl (pc0 := 84) (pc' := 88) rfl (hb hby at_84) (by decide) (by decide) k))))))) ?_
      refine Gl.out X12 (v := some (.int (1 : Int32))) (fun h => by rw [hret] at h; cases h) hlk (fun fs hr => retN X12 hx (t := .boolean) hret (by simp) (hb hby at_88) hr) ?_ (by decide) (by decide)
      show Q_rm0 Z _ _ _ _ _ _ h0 n0 _ T12.heap _
      rw [e12]
      exact ⟨rfl, N12⟩
    · refine Gl.pre (B := s₁.setTop (mkF m 98 #[.val (.int p1), .val (.long p2), .second, .val (.int p3), .val (.int p4), .val (.int p5), .val (.int p6), .val (.int (p6 &&& (3 : Int32))), .val (.int ((p4 &&& (1048575 : Int32)) + (1 : Int32))), .unset, .unset, .unset, .unset, .unset, .unset, .unset, .unset, .unset, .unset, .unset, .unset, .unset, .unset] [])) (fun _ k => XS.icmpYes X0.here hx rfl (pc0 := 56) (pc' := 89) rfl (hb hby at_56) rfl (feq hc56_9).2 (by decide) (by decide) (XS.iload X0.here hx rfl (hb hby at_89) rfl (X0.ldcInt hx hown (mvT hZ (wq hw 20 rfl)) (g := (mkF m 91 #[.val (.int p1), .val (.long p2), .second, .val (.int p3), .val (.int p4), .val (.int p5), .val (.int p6), .val (.int (p6 &&& (3 : Int32))), .unset, .unset, .unset, .unset, .unset, .unset, .unset, .unset, .unset, .unset, .unset, .unset, .unset, .unset, .unset] [(.int p4)])) rfl (hb hby at_91) _ (XS.iand X0.here hx rfl (hb hby at_93) rfl (XS.iconst X0.here hx rfl (hb hby at_94) (XS.iadd X0.here hx rfl (hb hby at_95) rfl (XS.istore X0.here hx rfl (hb hby at_96) rfl (l' := #[.val (.int p1), .val (.long p2), .second, .val (.int p3), .val (.int p4), .val (.int p5), .val (.int p6), .val (.int (p6 &&& (3 : Int32))), .val (.int ((p4 &&& (1048575 : Int32)) + (1 : Int32))), .unset, .unset, .unset, .unset, .unset, .unset, .unset, .unset, .unset, .unset, .unset, .unset, .unset, .unset]) rfl k))))))) ?_
      generalize h_d : ((p4 &&& (1048575 : Int32)) + (1 : Int32)) = d
      refine Gl.pre (B := s₁.setTop (mkF m 108 #[.val (.int p1), .val (.long p2), .second, .val (.int p3), .val (.int p4), .val (.int p5), .val (.int p6), .val (.int (p6 &&& (3 : Int32))), .val (.int d), .val (.int ((p5 &&& (2147483647 : Int32)) % d)), .unset, .unset, .unset, .unset, .unset, .unset, .unset, .unset, .unset, .unset, .unset, .unset, .unset] [])) (fun _ k => XS.iload X0.here hx rfl (hb hby at_98) rfl (X0.ldcInt hx hown (mvT hZ (wq hw 21 rfl)) (g := (mkF m 100 #[.val (.int p1), .val (.long p2), .second, .val (.int p3), .val (.int p4), .val (.int p5), .val (.int p6), .val (.int (p6 &&& (3 : Int32))), .val (.int d), .unset, .unset, .unset, .unset, .unset, .unset, .unset, .unset, .unset, .unset, .unset, .unset, .unset, .unset] [(.int p5)])) rfl (hb hby at_100) _ (XS.iand X0.here hx rfl (hb hby at_102) rfl (XS.iload X0.here hx rfl (hb hby at_103) rfl (Jvm.RoadKit.iremM (g := (mkF m 105 #[.val (.int p1), .val (.long p2), .second, .val (.int p3), .val (.int p4), .val (.int p5), .val (.int p6), .val (.int (p6 &&& (3 : Int32))), .val (.int d), .unset, .unset, .unset, .unset, .unset, .unset, .unset, .unset, .unset, .unset, .unset, .unset, .unset, .unset] [(.int d), (.int (p5 &&& (2147483647 : Int32)))])) X0 hx rfl (hb hby at_105) rfl (fl_nz h_d) (XS.istore X0.here hx rfl (hb hby at_106) rfl (l' := #[.val (.int p1), .val (.long p2), .second, .val (.int p3), .val (.int p4), .val (.int p5), .val (.int p6), .val (.int (p6 &&& (3 : Int32))), .val (.int d), .val (.int ((p5 &&& (2147483647 : Int32)) % d)), .unset, .unset, .unset, .unset, .unset, .unset, .unset, .unset, .unset, .unset, .unset, .unset, .unset]) rfl k)))))) ?_
      generalize h_r : ((p5 &&& (2147483647 : Int32)) % d) = r
      refine Gl.pre (B := s₁.setTop (mkF m 118 #[.val (.int p1), .val (.long p2), .second, .val (.int p3), .val (.int p4), .val (.int p5), .val (.int p6), .val (.int (p6 &&& (3 : Int32))), .val (.int d), .val (.int r), .unset, .unset, .unset, .unset, .unset, .unset, .unset, .unset, .unset, .unset, .unset, .unset, .unset] [(.long (((p3.toInt64) * (d.toInt64)) + (r.toInt64)))])) (fun _ k => XS.iloadN X0.here hx rfl (hb hby at_108) rfl (XS.i2l X0.here hx rfl (hb hby at_109) rfl (XS.iload X0.here hx rfl (hb hby at_110) rfl (XS.i2l X0.here hx rfl (hb hby at_112) rfl (XS.lmul X0.here hx rfl (hb hby at_113) rfl (XS.iload X0.here hx rfl (hb hby at_114) rfl (XS.i2l X0.here hx rfl (hb hby at_116) rfl (XS.ladd X0.here hx rfl (hb hby at_117) rfl k)))))))) ?_
      refine Gl.pre (B := s₁.setTop (mkF m 120 #[.val (.int p1), .val (.long p2), .second, .val (.int p3), .val (.int p4), .val (.int p5), .val (.int p6), .val (.int (p6 &&& (3 : Int32))), .val (.int d), .val (.int r), .val (.long (((p3.toInt64) * (d.toInt64)) + (r.toInt64))), .second, .unset, .unset, .unset, .unset, .unset, .unset, .unset, .unset, .unset, .unset, .unset] [])) (fun _ k => XS.lstore X0.here hx rfl (hb hby at_118) rfl (l' := #[.val (.int p1), .val (.long p2), .second, .val (.int p3), .val (.int p4), .val (.int p5), .val (.int p6), .val (.int (p6 &&& (3 : Int32))), .val (.int d), .val (.int r), .val (.long (((p3.toInt64) * (d.toInt64)) + (r.toInt64))), .second, .unset, .unset, .unset, .unset, .unset, .unset, .unset, .unset, .unset, .unset, .unset]) rfl k) ?_
      generalize h_tk : (((p3.toInt64) * (d.toInt64)) + (r.toInt64)) = tk
      have hd := fl_d h_d
      have hr := fl_r hd h_r
      have hN := fl_N (q := p3) hd hr h_tk
      have h2 := fl_2r hd hr
      obtain ⟨T13, h13, X13, e13, E13, A13, D13, -, st13⟩ := newO X0 hx hZ hown (wq hw 0 rfl) (wq hw 1 rfl) (wq hw 2 rfl) e0 (g := (mkF m 120 #[.val (.int p1), .val (.long p2), .second, .val (.int p3), .val (.int p4), .val (.int p5), .val (.int p6), .val (.int (p6 &&& (3 : Int32))), .val (.int d), .val (.int r), .val (.long tk), .second, .unset, .unset, .unset, .unset, .unset, .unset, .unset, .unset, .unset, .unset, .unset] [])) rfl (hb hby at_120) (by decide) (by decide)
      obtain ⟨b13, g13⟩ : ∃ z, z = h0.size := ⟨_, rfl⟩
      rw [← g13] at A13 D13 st13
      have g_b13 : n0 ≤ b13 := Nat.le_trans Z0 (Nat.le_of_eq g13.symm)
      have Z0 := Nat.le_trans Z0 E13.1
      have E_b13 := A13
      have F_documents_b13 : Fld Z h13 b13 "com/example/hanap/hanap/index/IndexStatistics" "documents" "I" (.int (0 : Int32)) := D13 (Or.inr (wq hw 10 rfl)) (ty := .int) (by decide)
      have F_terms_b13 : Fld Z h13 b13 "com/example/hanap/hanap/index/IndexStatistics" "terms" "I" (.int (0 : Int32)) := D13 (Or.inr (wq hw 12 rfl)) (ty := .int) (by decide)
      have F_tokens_b13 : Fld Z h13 b13 "com/example/hanap/hanap/index/IndexStatistics" "tokens" "J" (.long (0 : Int64)) := D13 (Or.inr (wq hw 14 rfl)) (ty := .long) (by decide)
      refine Gl.pre (B := T13.setTop (mkF m 129 #[.val (.int p1), .val (.long p2), .second, .val (.int p3), .val (.int p4), .val (.int p5), .val (.int p6), .val (.int (p6 &&& (3 : Int32))), .val (.int d), .val (.int r), .val (.long tk), .second, .unset, .unset, .unset, .unset, .unset, .unset, .unset, .unset, .unset, .unset, .unset] [(.long tk), (.int p1), (.int d), (.ref b13), (.ref b13)])) (fun _ k => st13 _ (XS.dup X13.here hx rfl (hb hby at_123) rfl rfl (XS.iload X13.here hx rfl (hb hby at_124) rfl (XS.iloadN X13.here hx rfl (hb hby at_126) rfl (XS.lload X13.here hx rfl (hb hby at_127) rfl k))))) ?_
      obtain ⟨rv14, _, ⟨T14, L14, k14, n14⟩, -, X14, ⟨Lc14, hQ14, l14, y14, z14⟩, st14⟩ := X13.specialBack hx (y := (⟨"com/example/hanap/hanap/index/IndexStatistics", "<init>", "(IIJ)V"⟩ : MethodName)) rfl hown (mvT hZ (wq hw 3 rfl)) (mvT hZ (wq hw 4 rfl)) (mvT hZ (wq hw 5 rfl)) (by decide) (backOf (W := 1) (ctor l Z a0 hw [] b13 d p1 tk h13 n0 Z0 g_b13 E_b13 F_documents_b13 F_terms_b13 F_tokens_b13) hZ (wq hw 5 rfl) (wq hw 2 rfl) (by decide) (by decide)) (g := (mkF m 129 #[.val (.int p1), .val (.long p2), .second, .val (.int p3), .val (.int p4), .val (.int p5), .val (.int p6), .val (.int (p6 &&& (3 : Int32))), .val (.int d), .val (.int r), .val (.long tk), .second, .unset, .unset, .unset, .unset, .unset, .unset, .unset, .unset, .unset, .unset, .unset] [(.long tk), (.int p1), (.int d), (.ref b13), (.ref b13)])) rfl (by rw [hml]; rfl) (Steps.refl _) (a := b13) (argsL := [(.int d), (.int p1), (.long tk)]) (rest := [(.ref b13)]) (lenOf pd_0 rfl) rfl (by show 2 * 0 + _ ≤ _; exact Nat.le_of_eq rfl) (hb hby at_129) (fun _ _ => ⟨rfl, e13, (by decide : 1 + 0 ≤ _), (by decide : 3 + 0 ≤ _)⟩)
      dsimp only [Pt.U, Pt.locs, Pt.cells, Pt.slots] at X14 l14 y14 z14 st14 hQ14
      have X14 := own_reb X14 l14 y14 z14
      obtain ⟨rfl, N14q, K14, F_d_14, F_t_14⟩ := hQ14
      have N14 := Fr.app N0 N14q
      have Z0 := Nat.le_trans Z0 K14.1
      have E_b13 := E_b13.keep K14
      refine Gl.pre (B := T14.setTop (mkF m 136 #[.val (.int p1), .val (.long p2), .second, .val (.int p3), .val (.int p4), .val (.int p5), .val (.int p6), .val (.int (p6 &&& (3 : Int32))), .val (.int d), .val (.int r), .val (.long tk), .second, .val (.ref b13), .unset, .unset, .unset, .unset, .unset, .unset, .unset, .unset, .unset, .unset] [(.ref b13)])) (fun _ k => st14.trans (XS.astore X14.here hx rfl (hb hby at_132) rfl rfl (l' := #[.val (.int p1), .val (.long p2), .second, .val (.int p3), .val (.int p4), .val (.int p5), .val (.int p6), .val (.int (p6 &&& (3 : Int32))), .val (.int d), .val (.int r), .val (.long tk), .second, .val (.ref b13), .unset, .unset, .unset, .unset, .unset, .unset, .unset, .unset, .unset, .unset]) rfl (XS.aload X14.here hx rfl (hb hby at_134) rfl rfl k))) ?_
      obtain ⟨cq15, kq15, q15a, q15b, q15c⟩ := isOf hZ rfl E_b13
      obtain ⟨rv15, _, ⟨T15, L15, k15, n15⟩, -, X15, ⟨Lc15, hQ15, l15, y15, z15⟩, st15⟩ := X14.virtualBack hx (y := (⟨"com/example/hanap/hanap/index/IndexStatistics", "getAverageDocumentLength", "()D"⟩ : MethodName)) (z := (⟨"com/example/hanap/hanap/index/IndexStatistics", "getAverageDocumentLength", "()D"⟩ : MethodName)) hown (mvT hZ (wq hw 15 rfl)) (mvT hZ (wq hw 16 rfl)) (notFace_of_selects (args := #[]) (mvT hZ (wq hw 18 rfl))) (mvT hZ (wq hw 18 rfl)) (mvT hZ (wq hw 17 rfl)) (by decide) (backOf (W := 0) (avgN l Z a0 hw [] b13 d tk T14.heap n0 Z0 F_d_14 F_t_14 (fl_pos hd) (fl_dn hd hr hN)) hZ (wq hw 19 rfl) (wq hw 2 rfl) (by decide) (by decide)) q15a q15c (g := (mkF m 136 #[.val (.int p1), .val (.long p2), .second, .val (.int p3), .val (.int p4), .val (.int p5), .val (.int p6), .val (.int (p6 &&& (3 : Int32))), .val (.int d), .val (.int r), .val (.long tk), .second, .val (.ref b13), .unset, .unset, .unset, .unset, .unset, .unset, .unset, .unset, .unset, .unset] [(.ref b13)])) rfl (by rw [hml]; rfl) (Steps.refl _) (argsL := []) (rest := []) (lenOf pd_1 rfl) rfl (by show 2 * 0 + _ ≤ _; exact Nat.le_of_eq rfl) (hb hby at_136) (fun _ _ => ⟨rfl, rfl, (by decide : 1 + 0 ≤ _), (by decide : 3 + 0 ≤ _)⟩)
      dsimp only [Pt.U, Pt.locs, Pt.cells, Pt.slots] at X15 l15 y15 z15 st15 hQ15
      have X15 := own_reb X15 l15 y15 z15
      obtain ⟨rfl, N15q, e15⟩ := hQ15
      have N15 := Fr.app N14 N15q
      refine Gl.pre (B := T15.setTop (mkF m 151 #[.val (.int p1), .val (.long p2), .second, .val (.int p3), .val (.int p4), .val (.int p5), .val (.int p6), .val (.int (p6 &&& (3 : Int32))), .val (.int d), .val (.int r), .val (.long tk), .second, .val (.ref b13), .val (.double (FP.ddiv (FP.l2d tk) (FP.i2d d))), .second, .val (.double (FP.i2d p3)), .second, .unset, .unset, .unset, .unset, .unset, .unset] [(.double (FP.dadd (FP.i2d p3) 4602678819172646912))])) (fun _ k => st15.trans (XS.dstore X15.here hx rfl (hb hby at_139) rfl (l' := #[.val (.int p1), .val (.long p2), .second, .val (.int p3), .val (.int p4), .val (.int p5), .val (.int p6), .val (.int (p6 &&& (3 : Int32))), .val (.int d), .val (.int r), .val (.long tk), .second, .val (.ref b13), .val (.double (FP.ddiv (FP.l2d tk) (FP.i2d d))), .second, .unset, .unset, .unset, .unset, .unset, .unset, .unset, .unset]) rfl (XS.iloadN X15.here hx rfl (hb hby at_141) rfl (XS.i2dS X15.here hx rfl (hb hby at_142) rfl rfl (XS.dstore X15.here hx rfl (hb hby at_143) rfl (l' := #[.val (.int p1), .val (.long p2), .second, .val (.int p3), .val (.int p4), .val (.int p5), .val (.int p6), .val (.int (p6 &&& (3 : Int32))), .val (.int d), .val (.int r), .val (.long tk), .second, .val (.ref b13), .val (.double (FP.ddiv (FP.l2d tk) (FP.i2d d))), .second, .val (.double (FP.i2d p3)), .second, .unset, .unset, .unset, .unset, .unset, .unset]) rfl (XS.dload X15.here hx rfl (hb hby at_145) rfl (X15.ldc2DoubleC hx hown (mvT hZ (wq hw 22 rfl)) (g := (mkF m 147 #[.val (.int p1), .val (.long p2), .second, .val (.int p3), .val (.int p4), .val (.int p5), .val (.int p6), .val (.int (p6 &&& (3 : Int32))), .val (.int d), .val (.int r), .val (.long tk), .second, .val (.ref b13), .val (.double (FP.ddiv (FP.l2d tk) (FP.i2d d))), .second, .val (.double (FP.i2d p3)), .second, .unset, .unset, .unset, .unset, .unset, .unset] [(.double (FP.i2d p3))])) rfl (hb hby at_147) _ (XS.daddS X15.here hx rfl (hb hby at_150) rfl (fl_hn p3) rfl k)))))))) ?_
      refine Gl.pre (B := T15.setTop (mkF m 161 #[.val (.int p1), .val (.long p2), .second, .val (.int p3), .val (.int p4), .val (.int p5), .val (.int p6), .val (.int (p6 &&& (3 : Int32))), .val (.int d), .val (.int r), .val (.long tk), .second, .val (.ref b13), .val (.double (FP.ddiv (FP.l2d tk) (FP.i2d d))), .second, .val (.double (FP.i2d p3)), .second, .val (.double (FP.dadd (FP.i2d p3) 4602678819172646912)), .second, .val (.double (FP.dadd (FP.i2d p3) FP.dconst1)), .second, .unset, .unset] [(.int r)])) (fun _ k => XS.dstore X15.here hx rfl (hb hby at_151) rfl (l' := #[.val (.int p1), .val (.long p2), .second, .val (.int p3), .val (.int p4), .val (.int p5), .val (.int p6), .val (.int (p6 &&& (3 : Int32))), .val (.int d), .val (.int r), .val (.long tk), .second, .val (.ref b13), .val (.double (FP.ddiv (FP.l2d tk) (FP.i2d d))), .second, .val (.double (FP.i2d p3)), .second, .val (.double (FP.dadd (FP.i2d p3) 4602678819172646912)), .second, .unset, .unset, .unset, .unset]) rfl (XS.dload X15.here hx rfl (hb hby at_153) rfl (XS.dconst1 X15.here hx rfl (hb hby at_155) rfl (XS.daddS X15.here hx rfl (hb hby at_156) rfl (fl_on p3) rfl (XS.dstore X15.here hx rfl (hb hby at_157) rfl (l' := #[.val (.int p1), .val (.long p2), .second, .val (.int p3), .val (.int p4), .val (.int p5), .val (.int p6), .val (.int (p6 &&& (3 : Int32))), .val (.int d), .val (.int r), .val (.long tk), .second, .val (.ref b13), .val (.double (FP.ddiv (FP.l2d tk) (FP.i2d d))), .second, .val (.double (FP.i2d p3)), .second, .val (.double (FP.dadd (FP.i2d p3) 4602678819172646912)), .second, .val (.double (FP.dadd (FP.i2d p3) FP.dconst1)), .second, .unset, .unset]) rfl (XS.iload X15.here hx rfl (hb hby at_159) rfl k)))))) ?_
      by_cases hc161_16 : r = (0 : Int32)
      · refine Gl.pre (B := T15.setTop (mkF m 177 #[.val (.int p1), .val (.long p2), .second, .val (.int p3), .val (.int p4), .val (.int p5), .val (.int p6), .val (.int (p6 &&& (3 : Int32))), .val (.int d), .val (.int r), .val (.long tk), .second, .val (.ref b13), .val (.double (FP.ddiv (FP.l2d tk) (FP.i2d d))), .second, .val (.double (FP.i2d p3)), .second, .val (.double (FP.dadd (FP.i2d p3) 4602678819172646912)), .second, .val (.double (FP.dadd (FP.i2d p3) FP.dconst1)), .second, .unset, .unset] [(.int (1 : Int32))])) (fun _ k => XS.ifNo X15.here hx rfl (hb hby at_161) rfl ((if0 _ _).trans (teq hc161_16).2) (XS.dload X15.here hx rfl (hb hby at_164) rfl (XS.dload X15.here hx rfl (hb hby at_166) rfl (XS.dcmpS X15.here hx rfl (hb hby at_168) rfl rfl (XS.ifNo X15.here hx rfl (hb hby at_169) rfl ((if0 _ _).trans (teq (fl_a hd hr hN hc161_16 : (cmpValue (FP.dcmp (FP.ddiv (FP.l2d tk) (FP.i2d d)) (FP.i2d p3)) .l) = (0 : Int32))).2) (XS.iconst X15.here hx rfl (hb hby at_172) (XS.goto X15.here hx rfl (pc0 := 173) (pc' := 177) rfl (hb hby at_173) (by decide) (by decide) k))))))) ?_
        refine Gl.out X15 (v := some (.int (1 : Int32))) (fun h => by rw [hret] at h; cases h) hlk (fun fs hr => retN X15 hx (t := .boolean) hret (by simp) (hb hby at_177) hr) ?_ (by decide) (by decide)
        show Q_rm0 Z _ _ _ _ _ _ h0 n0 _ T15.heap _
        rw [e15]
        exact ⟨rfl, N15⟩
      · refine Gl.pre (B := T15.setTop (mkF m 191 #[.val (.int p1), .val (.long p2), .second, .val (.int p3), .val (.int p4), .val (.int p5), .val (.int p6), .val (.int (p6 &&& (3 : Int32))), .val (.int d), .val (.int r), .val (.long tk), .second, .val (.ref b13), .val (.double (FP.ddiv (FP.l2d tk) (FP.i2d d))), .second, .val (.double (FP.i2d p3)), .second, .val (.double (FP.dadd (FP.i2d p3) 4602678819172646912)), .second, .val (.double (FP.dadd (FP.i2d p3) FP.dconst1)), .second, .val (.long ((2 : Int64) * (r.toInt64))), .second] [(.int d), (.long ((2 : Int64) * (r.toInt64)))])) (fun _ k => XS.ifYes X15.here hx rfl (pc0 := 161) (pc' := 178) rfl (hb hby at_161) rfl ((if0 _ _).trans (feq hc161_16).2) (by decide) (by decide) (X15.ldc2Long hx hown (mvT hZ (wq hw 23 rfl)) (g := (mkF m 178 #[.val (.int p1), .val (.long p2), .second, .val (.int p3), .val (.int p4), .val (.int p5), .val (.int p6), .val (.int (p6 &&& (3 : Int32))), .val (.int d), .val (.int r), .val (.long tk), .second, .val (.ref b13), .val (.double (FP.ddiv (FP.l2d tk) (FP.i2d d))), .second, .val (.double (FP.i2d p3)), .second, .val (.double (FP.dadd (FP.i2d p3) 4602678819172646912)), .second, .val (.double (FP.dadd (FP.i2d p3) FP.dconst1)), .second, .unset, .unset] [])) rfl (hb hby at_178) _ (XS.iload X15.here hx rfl (hb hby at_181) rfl (XS.i2l X15.here hx rfl (hb hby at_183) rfl (XS.lmul X15.here hx rfl (hb hby at_184) rfl (XS.lstore X15.here hx rfl (hb hby at_185) rfl (l' := #[.val (.int p1), .val (.long p2), .second, .val (.int p3), .val (.int p4), .val (.int p5), .val (.int p6), .val (.int (p6 &&& (3 : Int32))), .val (.int d), .val (.int r), .val (.long tk), .second, .val (.ref b13), .val (.double (FP.ddiv (FP.l2d tk) (FP.i2d d))), .second, .val (.double (FP.i2d p3)), .second, .val (.double (FP.dadd (FP.i2d p3) 4602678819172646912)), .second, .val (.double (FP.dadd (FP.i2d p3) FP.dconst1)), .second, .val (.long ((2 : Int64) * (r.toInt64))), .second]) rfl (XS.lload X15.here hx rfl (hb hby at_187) rfl (XS.iload X15.here hx rfl (hb hby at_189) rfl k)))))))) ?_
        refine Gl.pre (B := T15.setTop (mkF m 193 #[.val (.int p1), .val (.long p2), .second, .val (.int p3), .val (.int p4), .val (.int p5), .val (.int p6), .val (.int (p6 &&& (3 : Int32))), .val (.int d), .val (.int r), .val (.long tk), .second, .val (.ref b13), .val (.double (FP.ddiv (FP.l2d tk) (FP.i2d d))), .second, .val (.double (FP.i2d p3)), .second, .val (.double (FP.dadd (FP.i2d p3) 4602678819172646912)), .second, .val (.double (FP.dadd (FP.i2d p3) FP.dconst1)), .second, .val (.long ((2 : Int64) * (r.toInt64))), .second] [(.int (lcmpW ((2 : Int64) * (r.toInt64)) (d.toInt64)))])) (fun _ k => XS.i2l X15.here hx rfl (hb hby at_191) rfl (XS.lcmp X15.here hx rfl (hb hby at_192) rfl k)) ?_
        by_cases hc193_17 : (lcmpW ((2 : Int64) * (r.toInt64)) (d.toInt64)) < (0 : Int32)
        · refine Gl.pre (B := T15.setTop (mkF m 209 #[.val (.int p1), .val (.long p2), .second, .val (.int p3), .val (.int p4), .val (.int p5), .val (.int p6), .val (.int (p6 &&& (3 : Int32))), .val (.int d), .val (.int r), .val (.long tk), .second, .val (.ref b13), .val (.double (FP.ddiv (FP.l2d tk) (FP.i2d d))), .second, .val (.double (FP.i2d p3)), .second, .val (.double (FP.dadd (FP.i2d p3) 4602678819172646912)), .second, .val (.double (FP.dadd (FP.i2d p3) FP.dconst1)), .second, .val (.long ((2 : Int64) * (r.toInt64))), .second] [(.int (cmpValue (FP.dcmp (FP.ddiv (FP.l2d tk) (FP.i2d d)) (FP.dadd (FP.i2d p3) 4602678819172646912)) .g))])) (fun _ k => XS.ifNo X15.here hx rfl (hb hby at_193) rfl ((if0 _ _).trans (tlt hc193_17).2.1) (XS.dload X15.here hx rfl (hb hby at_196) rfl (XS.dload X15.here hx rfl (hb hby at_198) rfl (XS.dcmpS X15.here hx rfl (hb hby at_200) rfl rfl (XS.ifNo X15.here hx rfl (hb hby at_201) rfl ((if0 _ _).trans (tlt ((fl_b hd hr hN hc161_16 (h2.1.mp hc193_17)).1 : (cmpValue (FP.dcmp (FP.i2d p3) (FP.ddiv (FP.l2d tk) (FP.i2d d))) .g) < (0 : Int32))).2.1) (XS.dload X15.here hx rfl (hb hby at_204) rfl (XS.dload X15.here hx rfl (hb hby at_206) rfl (XS.dcmpS X15.here hx rfl (hb hby at_208) rfl rfl k)))))))) ?_
          refine Gl.pre (B := T15.setTop (mkF m 217 #[.val (.int p1), .val (.long p2), .second, .val (.int p3), .val (.int p4), .val (.int p5), .val (.int p6), .val (.int (p6 &&& (3 : Int32))), .val (.int d), .val (.int r), .val (.long tk), .second, .val (.ref b13), .val (.double (FP.ddiv (FP.l2d tk) (FP.i2d d))), .second, .val (.double (FP.i2d p3)), .second, .val (.double (FP.dadd (FP.i2d p3) 4602678819172646912)), .second, .val (.double (FP.dadd (FP.i2d p3) FP.dconst1)), .second, .val (.long ((2 : Int64) * (r.toInt64))), .second] [(.int (1 : Int32))])) (fun _ k => XS.ifNo X15.here hx rfl (hb hby at_209) rfl ((if0 _ _).trans (tlt ((fl_b hd hr hN hc161_16 (h2.1.mp hc193_17)).2 : (cmpValue (FP.dcmp (FP.ddiv (FP.l2d tk) (FP.i2d d)) (FP.dadd (FP.i2d p3) 4602678819172646912)) .g) < (0 : Int32))).2.1) (XS.iconst X15.here hx rfl (hb hby at_212) (XS.goto X15.here hx rfl (pc0 := 213) (pc' := 217) rfl (hb hby at_213) (by decide) (by decide) k))) ?_
          refine Gl.out X15 (v := some (.int (1 : Int32))) (fun h => by rw [hret] at h; cases h) hlk (fun fs hr => retN X15 hx (t := .boolean) hret (by simp) (hb hby at_217) hr) ?_ (by decide) (by decide)
          show Q_rm0 Z _ _ _ _ _ _ h0 n0 _ T15.heap _
          rw [e15]
          exact ⟨rfl, N15⟩
        · refine Gl.pre (B := T15.setTop (mkF m 224 #[.val (.int p1), .val (.long p2), .second, .val (.int p3), .val (.int p4), .val (.int p5), .val (.int p6), .val (.int (p6 &&& (3 : Int32))), .val (.int d), .val (.int r), .val (.long tk), .second, .val (.ref b13), .val (.double (FP.ddiv (FP.l2d tk) (FP.i2d d))), .second, .val (.double (FP.i2d p3)), .second, .val (.double (FP.dadd (FP.i2d p3) 4602678819172646912)), .second, .val (.double (FP.dadd (FP.i2d p3) FP.dconst1)), .second, .val (.long ((2 : Int64) * (r.toInt64))), .second] [(.int (lcmpW ((2 : Int64) * (r.toInt64)) (d.toInt64)))])) (fun _ k => XS.ifYes X15.here hx rfl (pc0 := 193) (pc' := 218) rfl (hb hby at_193) rfl ((if0 _ _).trans (flt hc193_17).2.1) (by decide) (by decide) (XS.lload X15.here hx rfl (hb hby at_218) rfl (XS.iload X15.here hx rfl (hb hby at_220) rfl (XS.i2l X15.here hx rfl (hb hby at_222) rfl (XS.lcmp X15.here hx rfl (hb hby at_223) rfl k))))) ?_
          by_cases hc224_18 : (lcmpW ((2 : Int64) * (r.toInt64)) (d.toInt64)) = (0 : Int32)
          · refine Gl.pre (B := T15.setTop (mkF m 240 #[.val (.int p1), .val (.long p2), .second, .val (.int p3), .val (.int p4), .val (.int p5), .val (.int p6), .val (.int (p6 &&& (3 : Int32))), .val (.int d), .val (.int r), .val (.long tk), .second, .val (.ref b13), .val (.double (FP.ddiv (FP.l2d tk) (FP.i2d d))), .second, .val (.double (FP.i2d p3)), .second, .val (.double (FP.dadd (FP.i2d p3) 4602678819172646912)), .second, .val (.double (FP.dadd (FP.i2d p3) FP.dconst1)), .second, .val (.long ((2 : Int64) * (r.toInt64))), .second] [(.int (1 : Int32))])) (fun _ k => XS.ifNo X15.here hx rfl (hb hby at_224) rfl ((if0 _ _).trans (teq hc224_18).2) (XS.dload X15.here hx rfl (hb hby at_227) rfl (XS.dload X15.here hx rfl (hb hby at_229) rfl (XS.dcmpS X15.here hx rfl (hb hby at_231) rfl rfl (XS.ifNo X15.here hx rfl (hb hby at_232) rfl ((if0 _ _).trans (teq (fl_c hd hr hN (h2.2.mp hc224_18) : (cmpValue (FP.dcmp (FP.ddiv (FP.l2d tk) (FP.i2d d)) (FP.dadd (FP.i2d p3) 4602678819172646912)) .l) = (0 : Int32))).2) (XS.iconst X15.here hx rfl (hb hby at_235) (XS.goto X15.here hx rfl (pc0 := 236) (pc' := 240) rfl (hb hby at_236) (by decide) (by decide) k))))))) ?_
            refine Gl.out X15 (v := some (.int (1 : Int32))) (fun h => by rw [hret] at h; cases h) hlk (fun fs hr => retN X15 hx (t := .boolean) hret (by simp) (hb hby at_240) hr) ?_ (by decide) (by decide)
            show Q_rm0 Z _ _ _ _ _ _ h0 n0 _ T15.heap _
            rw [e15]
            exact ⟨rfl, N15⟩
          · refine Gl.pre (B := T15.setTop (mkF m 254 #[.val (.int p1), .val (.long p2), .second, .val (.int p3), .val (.int p4), .val (.int p5), .val (.int p6), .val (.int (p6 &&& (3 : Int32))), .val (.int d), .val (.int r), .val (.long tk), .second, .val (.ref b13), .val (.double (FP.ddiv (FP.l2d tk) (FP.i2d d))), .second, .val (.double (FP.i2d p3)), .second, .val (.double (FP.dadd (FP.i2d p3) 4602678819172646912)), .second, .val (.double (FP.dadd (FP.i2d p3) FP.dconst1)), .second, .val (.long ((2 : Int64) * (r.toInt64))), .second] [(.int (cmpValue (FP.dcmp (FP.ddiv (FP.l2d tk) (FP.i2d d)) (FP.dadd (FP.i2d p3) FP.dconst1)) .g))])) (fun _ k => XS.ifYes X15.here hx rfl (pc0 := 224) (pc' := 241) rfl (hb hby at_224) rfl ((if0 _ _).trans (feq hc224_18).2) (by decide) (by decide) (XS.dload X15.here hx rfl (hb hby at_241) rfl (XS.dload X15.here hx rfl (hb hby at_243) rfl (XS.dcmpS X15.here hx rfl (hb hby at_245) rfl rfl (XS.ifNo X15.here hx rfl (hb hby at_246) rfl ((if0 _ _).trans (tlt ((fl_e hd hr hN (fun z => hc193_17 (h2.1.mpr z)) (fun z => hc224_18 (h2.2.mpr z))).1 : (cmpValue (FP.dcmp (FP.dadd (FP.i2d p3) 4602678819172646912) (FP.ddiv (FP.l2d tk) (FP.i2d d))) .g) < (0 : Int32))).2.1) (XS.dload X15.here hx rfl (hb hby at_249) rfl (XS.dload X15.here hx rfl (hb hby at_251) rfl (XS.dcmpS X15.here hx rfl (hb hby at_253) rfl rfl k)))))))) ?_
            refine Gl.pre (B := T15.setTop (mkF m 262 #[.val (.int p1), .val (.long p2), .second, .val (.int p3), .val (.int p4), .val (.int p5), .val (.int p6), .val (.int (p6 &&& (3 : Int32))), .val (.int d), .val (.int r), .val (.long tk), .second, .val (.ref b13), .val (.double (FP.ddiv (FP.l2d tk) (FP.i2d d))), .second, .val (.double (FP.i2d p3)), .second, .val (.double (FP.dadd (FP.i2d p3) 4602678819172646912)), .second, .val (.double (FP.dadd (FP.i2d p3) FP.dconst1)), .second, .val (.long ((2 : Int64) * (r.toInt64))), .second] [(.int (1 : Int32))])) (fun _ k => XS.ifNo X15.here hx rfl (hb hby at_254) rfl ((if0 _ _).trans (tlt ((fl_e hd hr hN (fun z => hc193_17 (h2.1.mpr z)) (fun z => hc224_18 (h2.2.mpr z))).2 : (cmpValue (FP.dcmp (FP.ddiv (FP.l2d tk) (FP.i2d d)) (FP.dadd (FP.i2d p3) FP.dconst1)) .g) < (0 : Int32))).2.1) (XS.iconst X15.here hx rfl (hb hby at_257) (XS.goto X15.here hx rfl (pc0 := 258) (pc' := 262) rfl (hb hby at_258) (by decide) (by decide) k))) ?_
            refine Gl.out X15 (v := some (.int (1 : Int32))) (fun h => by rw [hret] at h; cases h) hlk (fun fs hr => retN X15 hx (t := .boolean) hret (by simp) (hb hby at_262) hr) ?_ (by decide) (by decide)
            show Q_rm0 Z _ _ _ _ _ _ h0 n0 _ T15.heap _
            rw [e15]
            exact ⟨rfl, N15⟩
set_option maxRecDepth 65536 in
set_option maxHeartbeats 40000000 in
theorem comes_1 {Post : Tables → Env → Array Value → State → Outcome → State → Prop} (hpost : ∀ tb e args s v u, (limb_1_1.after args s (.returned v) u = true ∧ limb_1_2.after args s (.returned v) u = true ∧ True) → FrameEnd s (.returned v) u (Jvm.fieldLocs frame_1_writes args s ++ Jvm.arrayLocs frame_1_arrays args s ++ Jvm.staticLocs frame_1_statics s) 16 128 → Post tb e args s (.returned v) u) :
    ArmFor flags0 classFile x code maxLocals ret World_1 tables_1 room_1 Calls_1 rest_1 Pre_1 Post := by
  intro l hfl _ _ p e ha hc hk s m args below hf hA hF happ hP
  obtain ⟨hcalls, hrest, hpre⟩ := hP
  obtain ⟨-, -, -, hnamed, -, -, -, hat⟩ := (Spec.applies_iff hf).mp happ
  obtain ⟨hg, hn⟩ := and_e (Cond.before_iff.mp (show (Jvm.Cond.and given_1 narrow_1).before args s = true from hpre))
  obtain ⟨h1, hr1⟩ := and_e hg
  obtain ⟨hi0, hr2⟩ := and_e hr1
  obtain ⟨hi1, hr3⟩ := and_e hr2
  obtain ⟨hi2, hr4⟩ := and_e hr3
  obtain ⟨hi3, hr5⟩ := and_e hr4
  obtain ⟨hi4, hr6⟩ := and_e hr5
  have hi5 := hr6
  obtain ⟨w0, w1, w2, w3, w4, w5, rfl⟩ : ∃ w0 w1 w2 w3 w4 w5 : Value, args = #[w0, w1, w2, w3, w4, w5] := by
    have hs : args.size = 6 := by simpa [Cond.value, given_1] using h1
    obtain ⟨L⟩ := args
    match L, hs with
    | [w0, w1, w2, w3, w4, w5], _ => exact ⟨w0, w1, w2, w3, w4, w5, rfl⟩
  have hw := fun d (hd : d ∈ tables_1) => atoms_spec (ws := Jvm.Cond.code x code maxLocals ret :: tables_1) hat d (List.mem_cons_of_mem _ hd)
  have hfit : Fit s := fun {y c} hc i hi => by
    obtain ⟨ha, rfl⟩ := Array.getElem?_eq_some_iff.mp hc
    have q := List.all_eq_true.mp ((Array.all_eq_true_iff_forall_mem.mp hF) _ (Array.getElem_mem ha)) i (List.mem_range.mpr hi)
    simpa [Array.getElem?_eq_getElem hi] using q
  obtain ⟨i0, ei0⟩ := is_v hi0
  obtain rfl : w0 = (.int i0) := Option.some.inj ei0
  obtain ⟨i1, ei1⟩ := isL_v hi1
  obtain rfl : w1 = (.long i1) := Option.some.inj ei1
  obtain ⟨i2, ei2⟩ := is_v hi2
  obtain rfl : w2 = (.int i2) := Option.some.inj ei2
  obtain ⟨i3, ei3⟩ := is_v hi3
  obtain rfl : w3 = (.int i3) := Option.some.inj ei3
  obtain ⟨i4, ei4⟩ := is_v hi4
  obtain rfl : w4 = (.int i4) := Option.some.inj ei4
  obtain ⟨i5, ei5⟩ := is_v hi5
  obtain rfl : w5 = (.int i5) := Option.some.inj ei5
  obtain ⟨n, o, h1, h2, h3, _, L, rfl, ⟨rfl, N⟩, hq⟩ := rm0 l s _ hw tables_1 i0 i1 i2 i3 i4 i5 s.heap s.heap.size (Nat.le_refl _) p e ha hc hk s m _ below hf ((Spec.applies_iff_loose hf).mp happ).1 ⟨rfl, State.Warmed39.refl s, rfl⟩ trivial
  refine ⟨n, _, h1, h2, h3, hpost _ _ _ _ _ _ ⟨Cond.after_iff.mpr rfl, Cond.after_iff.mpr (eq_i res_at (Term.int_eval (1)) rfl), trivial⟩ ⟨hq.1, hq.2.1, (hq.2.2.sift fun y hy => Or.inr (N y hy)).mono (by decide) (by decide)⟩⟩
theorem main_1_1 : Claimed_1_1 := comes_1 fun _ _ _ _ _ _ h hF => ⟨h.1, hF⟩
theorem main_1_2 : Claimed_1_2 := comes_1 fun _ _ _ _ _ _ h hF => ⟨h.2.1, hF⟩
end Jvm.Pilot.@@N@@
namespace Jvm.Pilot.@@N@@
open Jvm Jvm.ClassFile Sem Op Lib Jvm.Free Jvm.Stand Jvm.Pilot.@@N@@.Jvm.D
/-! MADE BY PROGRAM (witnessworld.py) out of the Statement's table words and the real class files: 9 classes; the members and pool entries that the words name. The judged class is class 1, her method 1. -/
namespace start1
open Jvm.ClassFile
def u (s : String) : CpInfo := .utf8 (stringToUtf16 s)
/-- a pool by its gaps: so many unusable entries, then the entry; so many at the end -/
def gap : Nat → List CpInfo → List CpInfo
  | 0, r => r
  | n + 1, r => .unusable :: gap n r
def poolList (es : List (Nat × CpInfo)) (last : Nat) : List CpInfo := es.foldr (fun e r => gap e.1 (e.2 :: r)) (gap last [])
def pool (es : List (Nat × CpInfo)) (last : Nat) : Array CpInfo := ⟨poolList es last⟩
def fileOf (pool : Array CpInfo) (this : Nat) (attrs : Array Attribute := #[]) (ms : Array MethodInfo := #[]) (fl : Nat := 33) (sup : Nat := 0) (ifs : Array Nat := #[]) (fds : Array FieldInfo := #[]) : ClassFile where
  minorVersion := 0
  majorVersion := 65
  constantPool := pool
  accessFlags := fl
  thisClass := this
  superClass := sup
  interfaces := ifs
  fields := fds
  methods := ms
  attributes := attrs
def plain (name : String) (sup : Option ClassId) : Class where
  name := name
  kind := .ordinary
  loader := none
  accessFlags := 33
  super := sup
  interfaces := #[]
  cf := none
  fields := #[]
  methods := #[]
  instanceTypes := #[]
  staticTypes := #[]
  resolved := #[]
  callSites := []
  init := .initialized
  statics := none
  mirror := none

def pool0 : Array CpInfo := pool [(5, u "<init>"), (0, u "()V"), (1, .class_ 10), (1, u "java/lang/Object")] 113

def k0c0 : Code := { maxStack := 0, maxLocals := 1, code := object_method_1_code, exceptionTable := #[], attributes := #[] }
def k0m0 : Method := { name := "<init>", desc := "()V", sig := { parameters := [], returnType := none }, accessFlags := 1, code := some k0c0 }
/-- java/lang/Object -/
def k0 : Class := { plain "java/lang/Object" none with
  accessFlags := 33
  interfaces := #[]
  cf := some (fileOf pool0 8 #[] #[{ accessFlags := 1, nameIndex := 5, descriptorIndex := 6, attributes := #[] }] 33 0 #[] #[])
  fields := #[]
  methods := #[k0m0]
  instanceTypes := #[]
  staticTypes := #[]
  resolved := Array.replicate 124 none
  statics := none }

def pool1 : Array CpInfo := pool [(2, .class_ 4), (1, u "java/lang/Object"), (0, u "<init>"), (0, u "()V"), (0, .class_ 8), (0, u "com/example/hanap/hanap/index/IndexStatistics"), (0, .methodref 7 10), (0, .nameAndType 5 11), (0, u "(IIJ)V"), (0, .methodref 7 13), (0, .nameAndType 14 15), (0, u "getAverageDocumentLength"), (0, u "()D"), (0, .integer 1048575), (0, .integer 2147483647), (0, .double 4602678819172646912), (1, .long 2), (1, .class_ 23), (0, u "com/example/hanap/hanap/index/IndexStatisticsGetAverageDocumentLengthPinLaw"), (2, u "law"), (0, u "(IJIIII)Z")] 3

def k1m0 : Method := { name := "<init>", desc := "()V", sig := { parameters := [], returnType := none }, accessFlags := 1, code := none }
def k1c1 : Code := { maxStack := 6, maxLocals := 23, code := code, exceptionTable := #[], attributes := #[] }
def k1m1 : Method := { name := "law", desc := "(IJIIII)Z", sig := { parameters := [.int, .long, .int, .int, .int, .int], returnType := some .boolean }, accessFlags := 9, code := some k1c1 }
/-- com/example/hanap/hanap/index/IndexStatisticsGetAverageDocumentLengthPinLaw -/
def k1 : Class := { plain "com/example/hanap/hanap/index/IndexStatisticsGetAverageDocumentLengthPinLaw" (some 0) with
  accessFlags := 49
  interfaces := #[]
  cf := some (fileOf pool1 22 #[] #[{ accessFlags := 1, nameIndex := 5, descriptorIndex := 6, attributes := #[] }, { accessFlags := 9, nameIndex := 26, descriptorIndex := 27, attributes := #[] }] 49 2 #[] #[])
  fields := #[]
  methods := #[k1m0, k1m1]
  instanceTypes := #[]
  staticTypes := #[]
  resolved := Array.replicate 31 none
  statics := none }

def pool2 : Array CpInfo := pool [(1, .methodref 2 3), (0, .class_ 4), (0, .nameAndType 5 6), (0, u "java/lang/Object"), (0, u "<init>"), (0, u "()V"), (0, .fieldref 8 9), (0, .class_ 10), (0, .nameAndType 11 12), (0, u "com/example/hanap/hanap/index/IndexStatistics"), (0, u "documents"), (0, u "I"), (0, .fieldref 8 14), (0, .nameAndType 15 12), (0, u "terms"), (0, .fieldref 8 17), (0, .nameAndType 18 19), (0, u "tokens"), (0, u "J"), (0, u "(IIJ)V"), (7, u "getAverageDocumentLength"), (0, u "()D")] 3

def k2c0 : Code := { maxStack := 3, maxLocals := 5, code := prog_33_method_1_code, exceptionTable := #[], attributes := #[] }
def k2m0 : Method := { name := "<init>", desc := "(IIJ)V", sig := { parameters := [.int, .int, .long], returnType := none }, accessFlags := 1, code := some k2c0 }
def k2c1 : Code := { maxStack := 4, maxLocals := 1, code := prog_33_method_5_code, exceptionTable := #[], attributes := #[] }
def k2m1 : Method := { name := "getAverageDocumentLength", desc := "()D", sig := { parameters := [], returnType := some .double }, accessFlags := 1, code := some k2c1 }
/-- com/example/hanap/hanap/index/IndexStatistics -/
def k2 : Class := { plain "com/example/hanap/hanap/index/IndexStatistics" (some 0) with
  accessFlags := 49
  interfaces := #[]
  cf := some (fileOf pool2 8 #[] #[{ accessFlags := 1, nameIndex := 5, descriptorIndex := 20, attributes := #[] }, { accessFlags := 1, nameIndex := 28, descriptorIndex := 29, attributes := #[] }] 49 2 #[] #[{ accessFlags := 18, nameIndex := 11, descriptorIndex := 12, attributes := #[] }, { accessFlags := 18, nameIndex := 15, descriptorIndex := 12, attributes := #[] }, { accessFlags := 18, nameIndex := 18, descriptorIndex := 19, attributes := #[] }])
  fields := #[{ name := "documents", type := .int, accessFlags := 18, slot := 0, constantValue := 0 }, { name := "terms", type := .int, accessFlags := 18, slot := 1, constantValue := 0 }, { name := "tokens", type := .long, accessFlags := 18, slot := 2, constantValue := 0 }]
  methods := #[k2m0, k2m1]
  instanceTypes := #[.int, .int, .long]
  staticTypes := #[]
  resolved := Array.replicate 33 none
  statics := none }

def pool3 : Array CpInfo := pool [(1, u "java/lang/Cloneable"), (0, .class_ 1), (0, u "java/lang/Object"), (0, .class_ 3)] 3

/-- java/lang/Cloneable -/
def k3 : Class := { plain "java/lang/Cloneable" (some 0) with
  accessFlags := 1537
  interfaces := #[]
  cf := some (fileOf pool3 2 #[] #[] 1537 4 #[] #[])
  fields := #[]
  methods := #[]
  instanceTypes := #[]
  staticTypes := #[]
  resolved := Array.replicate 8 none
  statics := none }

def pool4 : Array CpInfo := pool [(1, u "java/io/Serializable"), (0, .class_ 1), (0, u "java/lang/Object"), (0, .class_ 3)] 3

/-- java/io/Serializable -/
def k4 : Class := { plain "java/io/Serializable" (some 0) with
  accessFlags := 1537
  interfaces := #[]
  cf := some (fileOf pool4 2 #[] #[] 1537 4 #[] #[])
  fields := #[]
  methods := #[]
  instanceTypes := #[]
  staticTypes := #[]
  resolved := Array.replicate 8 none
  statics := none }

/-- the primitive byte -/
def k5 : Class := { plain "byte" none with kind := .primitive 'B', accessFlags := 0x411 }
/-- [B -/
def k6 : Class := { plain "[B" (some 0) with kind := .array 5 .byte, interfaces := #[3, 4], accessFlags := 1041 }

/-- the primitive int -/
def k7 : Class := { plain "int" none with kind := .primitive 'I', accessFlags := 0x411 }
/-- [I -/
def k8 : Class := { plain "[I" (some 0) with kind := .array 7 .int, interfaces := #[3, 4], accessFlags := 1041 }

def heap : Heap := #[]
def classes : Array Class := #[k0, k1, k2, k3, k4, k5, k6, k7, k8]
def interned : List (Array UInt16 × Addr) := []
def slotsUsed : Nat := 0
def theMethod : MethodId := ⟨1, 1⟩
def args0 : Array Value := #[.int 5, .long 7, .int 3, .int 6, .int 4, .int 2]
def aboutOver (below : List Frame) : State where
  vm := { classes := classes, interned := interned.toArray }
  heap := heap
  slotsUsed := slotsUsed
  threads := #[{ frames := .invoking theMethod args0 :: below }]
def below0 : List Frame := [.native { method := ⟨0, 0⟩, args := #[] }]
def about1 : State := aboutOver below0
def p0 : Program := .bare "" "" ""
def e0 : Env := launch0.env 0 0 0
theorem w_frames : about1.frames = Frame.invoking theMethod args0 :: below0 := rfl
set_option maxRecDepth 65536 in
theorem w_args : argsFit about1.vm theMethod args0 = true := by decide +kernel
set_option maxRecDepth 65536 in
theorem w_heap : heapFits about1 = true := by decide +kernel
set_option maxRecDepth 65536 in
theorem w_runnable : about1.curStatus? = some .runnable := by decide +kernel
set_option maxRecDepth 65536 in
theorem w_alone : about1.alone = true := by decide +kernel
set_option maxRecDepth 65536 in
theorem w_named : about1.methodNamed? x = some theMethod := by decide +kernel
set_option maxRecDepth 65536 in
theorem w_hears : about1.hears theMethod below0 = true := by decide +kernel
set_option maxRecDepth 65536 in
theorem w_ripe : about1.ripe theMethod args0 below0 = true := by decide +kernel
theorem w_running : about1.status = .running := rfl
set_option maxRecDepth 65536 in
theorem w_room : about1.hasRoom e0.platform room_1 = true :=
  launch0.hasRoom_least _ room_1 (by decide +kernel) (by decide +kernel) (by decide +kernel) (by decide +kernel) (by decide +kernel) (by decide +kernel)
theorem allAtoms_all (ts : List Jvm.Cond) (a : Array Jvm.Value) (st : Jvm.State) : (allAtoms ts).before a st = ts.all (fun c => c.before a st) := by
  induction ts with
  | nil => rfl
  | cons c t ih =>
    show (Jvm.Cond.and c (allAtoms t)).before a st = _
    rw [Jvm.Cond.before_and, ih, List.all_cons]
def words1 : List Jvm.Cond := Jvm.Cond.code x code maxLocals ret :: tables_1
/-- a 'code' word, met by the world's own term for the bytes: nothing is compared byte by byte -/
theorem code_word {y : MethodName} {bytes : ByteArray} {mx : Nat} {rt : Option FieldType} {a : Array Value} {s : State} {m : MethodId} {meth : Method} {c : Code} (h1 : s.methodNamed? y = some m) (h2 : s.vm.method? m = some meth) (h3 : meth.code = some c) (h4 : c.code = bytes)
    (h5 : (c.maxLocals == mx && c.exceptionTable.isEmpty && decide (c.maxStack ≤ mostOperands) && decide (meth.sig.returnType = rt) && !meth.locks && decide (parseMethodDescriptor y.desc = some meth.sig)) = true) : (Jvm.Cond.code y bytes mx rt).before a s = true := by
  simp only [Bool.and_eq_true, beq_iff_eq, Bool.not_eq_true', decide_eq_true_eq] at h5
  obtain ⟨⟨⟨⟨⟨g1, g2⟩, g3⟩, g4⟩, g5⟩, g6⟩ := h5
  simp [Cond.before, Cond.holds, Cond.value, h1, h2, h3, h4, g1, g2, g3, g4, g5, g6]
def isCode : Jvm.Cond → Bool
  | .code _ _ _ _ => true
  | _ => false
theorem all_split {L : List Jvm.Cond} {P : Jvm.Cond → Bool} (h1 : L.all (fun c => isCode c || P c) = true) (h2 : ∀ c ∈ L.filter isCode, P c = true) : L.all P = true := by
  refine List.all_eq_true.mpr fun c hc => ?_
  have h := List.all_eq_true.mp h1 c hc
  rcases Bool.eq_false_or_eq_true (isCode c) with hi | hi
  · exact h2 c (List.mem_filter.mpr ⟨hc, hi⟩)
  · simpa [hi] using h
set_option maxRecDepth 65536 in
theorem w_c0 : (Jvm.Cond.code x code maxLocals ret).before args0 about1 = true := code_word (m := ⟨1, 1⟩) (meth := k1m1) (c := k1c1) (by decide +kernel) rfl rfl rfl (by decide +kernel)
set_option maxRecDepth 65536 in
theorem w_c1 : (Jvm.Cond.code ({ cls := "com/example/hanap/hanap/index/IndexStatistics", name := "<init>", desc := "(IIJ)V" } : Jvm.MethodName) prog_33_method_1_code (5 : Nat) (Option.none : Option Jvm.ClassFile.FieldType)).before args0 about1 = true := code_word (m := ⟨2, 0⟩) (meth := k2m0) (c := k2c0) (by decide +kernel) rfl rfl rfl (by decide +kernel)
set_option maxRecDepth 65536 in
theorem w_c2 : (Jvm.Cond.code ({ cls := "java/lang/Object", name := "<init>", desc := "()V" } : Jvm.MethodName) object_method_1_code (1 : Nat) (Option.none : Option Jvm.ClassFile.FieldType)).before args0 about1 = true := code_word (m := ⟨0, 0⟩) (meth := k0m0) (c := k0c0) (by decide +kernel) rfl rfl rfl (by decide +kernel)
set_option maxRecDepth 65536 in
theorem w_c3 : (Jvm.Cond.code ({ cls := "com/example/hanap/hanap/index/IndexStatistics", name := "getAverageDocumentLength", desc := "()D" } : Jvm.MethodName) prog_33_method_5_code (1 : Nat) (Option.some Jvm.ClassFile.FieldType.double)).before args0 about1 = true := code_word (m := ⟨2, 1⟩) (meth := k2m1) (c := k2c1) (by decide +kernel) rfl rfl rfl (by decide +kernel)
def codes1 : List Jvm.Cond := [Jvm.Cond.code x code maxLocals ret, Jvm.Cond.code ({ cls := "com/example/hanap/hanap/index/IndexStatistics", name := "<init>", desc := "(IIJ)V" } : Jvm.MethodName) prog_33_method_1_code (5 : Nat) (Option.none : Option Jvm.ClassFile.FieldType), Jvm.Cond.code ({ cls := "java/lang/Object", name := "<init>", desc := "()V" } : Jvm.MethodName) object_method_1_code (1 : Nat) (Option.none : Option Jvm.ClassFile.FieldType), Jvm.Cond.code ({ cls := "com/example/hanap/hanap/index/IndexStatistics", name := "getAverageDocumentLength", desc := "()D" } : Jvm.MethodName) prog_33_method_5_code (1 : Nat) (Option.some Jvm.ClassFile.FieldType.double)]
set_option maxRecDepth 65536 in
theorem codes_eq : words1.filter isCode = codes1 := rfl
theorem w_codes : ∀ c ∈ words1.filter isCode, c.before args0 about1 = true := by
  rw [codes_eq]
  intro c hc
  simp only [codes1, List.mem_cons, List.not_mem_nil, or_false] at hc
  rcases hc with rfl | rfl | rfl | rfl
  · exact w_c0
  · exact w_c1
  · exact w_c2
  · exact w_c3
set_option maxRecDepth 65536 in
theorem w_t1 : (words1.take 24).all (fun c => isCode c || c.before args0 about1) = true := by decide +kernel
set_option maxRecDepth 65536 in
theorem w_t2 : (words1.drop 24).all (fun c => isCode c || c.before args0 about1) = true := by decide +kernel
theorem w_tables : (allAtoms (Jvm.Cond.code x code maxLocals ret :: tables_1)).before args0 about1 = true := by
  rw [allAtoms_all]
  show words1.all (fun c => c.before args0 about1) = true
  refine all_split ?_ w_codes
  rw [← List.take_append_drop 24 words1, List.all_append, w_t1, w_t2]
  rfl
set_option maxRecDepth 65536 in
theorem w_case : (Jvm.Cond.and given_1 narrow_1).before args0 about1 = true := by decide +kernel
theorem w_applies : (headSpec (Jvm.Cond.code x code maxLocals ret :: tables_1) room_1).applies x e0.platform about1 = true :=
  (Spec.applies_iff w_frames).mpr ⟨w_running, w_runnable, w_alone, w_named, w_hears, w_ripe, w_room, w_tables⟩
theorem atStart : AtStart classFile x code maxLocals ret World_1 tables_1 room_1 Calls_1 rest_1 Pre_1 launch0 p0 e0 about1 theMethod args0 below0 :=
  ⟨lists_1, trivial, launch0.admits_env _ _ _, launch0.least_env, fairChoices_fair.cas, fairChoices_fair.clock, w_frames, w_args, w_heap, w_applies, trivial, trivial, w_case⟩
end start1
theorem witness_1 : WitnessClaimed_1 := ⟨start1.p0, start1.e0, start1.about1, start1.theMethod, start1.args0, start1.below0, start1.atStart⟩
end Jvm.Pilot.@@N@@
