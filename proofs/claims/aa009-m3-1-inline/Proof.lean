import JvmDerived
import JvmDerived.Pilot.@@N@@Statement
import JvmDerived.Pilot.@@N@@Code
set_option linter.unusedVariables false
set_option linter.unusedSimpArgs false
@@BLOCK:TracedD.lean.txt@@

/- laws to paste: pair_says (cut by pick.py; bodies as the Statement names them) -/
namespace Jvm.Pilot.@@N@@
namespace StrChars
open Jvm Sem ClassFile Op Lib Jvm.Stand Jvm.Free.XT Jvm.Free.ALB Jvm.Free.JM Jvm.Free
open Jvm.Lib.Cold (StaticIs)
/-- the byte that i2b leaves of a char -/
def lo8 (x : Int32) : Int32 := x.toInt8.toInt32
end StrChars
namespace StrChars
open Jvm Sem ClassFile Op Lib Jvm.Stand Jvm.Free.XT Jvm.Free.ALB Jvm.Free.JM Jvm.Free
open Jvm.Lib.Cold (StaticIs)
def hi8 (x : Int32) : Int32 := lo8 (x >>> ((8 : Int32) &&& 31))
/-- what StringUTF16.getChar makes of two bytes -/
def pairCh (u v : Int32) : Int32 := (((u &&& 255) <<< ((0 : Int32) &&& 31)) ||| ((v &&& 255) <<< ((8 : Int32) &&& 31))).toUInt32.toUInt16.toUInt32.toInt32
theorem lo8_and (x : Int32) : (lo8 x &&& 255).toBitVec.toNat = x.toBitVec.toNat % 256 := by
  have h : (lo8 x).toBitVec = (x.toBitVec.signExtend 8).signExtend 32 := by rw [lo8, Int8.toBitVec_toInt32, Int32.toBitVec_toInt8]
  rw [Int32.toBitVec_and, BitVec.toNat_and, h]
  have e : ((x.toBitVec.signExtend 8).signExtend 32).toNat % 256 = x.toBitVec.toNat % 256 := by
    rw [BitVec.toNat_signExtend]
    have hlt := x.toBitVec.isLt
    simp only [BitVec.toNat_setWidth, BitVec.toNat_signExtend]
    split <;> split <;> omega
  rw [← e]
  exact Nat.and_two_pow_sub_one_eq_mod _ 8
theorem pair_says {c : Int32} (h0 : ¬ c < 0) (h1 : ¬ 65535 < c) : pairCh (lo8 c) (hi8 c) = c := by
  rw [Int32.lt_iff_toInt_lt] at h0 h1
  have e0 : (0 : Int32).toInt = 0 := rfl
  have e1 : (65535 : Int32).toInt = 65535 := rfl
  have hc : c.toInt = c.toBitVec.toNat := by
    have := c.toBitVec.isLt
    have e : c.toInt = c.toBitVec.toInt := rfl
    rw [e] at h0 h1
    rw [e]
    rw [BitVec.toInt_eq_toNat_cond] at h0 h1 ⊢
    split at h0 <;> split <;> omega
  have hn : c.toBitVec.toNat < 65536 := by omega
  have a1 := lo8_and c
  have a2 : (hi8 c &&& 255).toBitVec.toNat = c.toBitVec.toNat / 256 := by
    rw [hi8, lo8_and]
    have e : ((8 : Int32) &&& 31) = 8 := by decide
    rw [e, Int32.toBitVec_shiftRight]
    have e2 : ((8 : Int32).toBitVec.smod 32) = 8#32 := by decide
    rw [e2, BitVec.sshiftRight_eq', BitVec.toNat_sshiftRight_of_msb_false (by rw [BitVec.msb_eq_false_iff_two_mul_lt]; omega)]
    show c.toBitVec.toNat >>> 8 % 256 = _
    rw [Nat.shiftRight_eq_div_pow]
    omega
  unfold pairCh
  apply Int32.toBitVec_inj.mp
  apply BitVec.eq_of_toNat_eq
  have f0 : ((0 : Int32) &&& 31) = 0 := by decide
  have f8 : ((8 : Int32) &&& 31) = 8 := by decide
  rw [f0, f8]
  have g : (((lo8 c &&& 255) <<< (0 : Int32)) ||| ((hi8 c &&& 255) <<< (8 : Int32))).toBitVec.toNat = c.toBitVec.toNat := by
    rw [Int32.toBitVec_or, Int32.toBitVec_shiftLeft, Int32.toBitVec_shiftLeft]
    have s0 : ((0 : Int32).toBitVec.smod 32) = 0#32 := by decide
    have s8 : ((8 : Int32).toBitVec.smod 32) = 8#32 := by decide
    rw [s0, s8, BitVec.toNat_or]
    simp only [BitVec.shiftLeft_eq', BitVec.toNat_shiftLeft, a1, a2]
    show (c.toBitVec.toNat % 256) <<< 0 % 2 ^ 32 ||| (c.toBitVec.toNat / 256) <<< 8 % 2 ^ 32 = _
    rw [Nat.shiftLeft_zero, Nat.mod_eq_of_lt (show c.toBitVec.toNat % 256 < 2 ^ 32 by omega), Nat.mod_eq_of_lt (show (c.toBitVec.toNat / 256) <<< 8 < 2 ^ 32 by rw [Nat.shiftLeft_eq]; omega), Nat.or_comm, ← Nat.shiftLeft_add_eq_or_of_lt (by omega), Nat.shiftLeft_eq]
    omega
  show BitVec.toNat (((((lo8 c &&& 255) <<< (0 : Int32)) ||| ((hi8 c &&& 255) <<< (8 : Int32))).toBitVec.setWidth 16).setWidth 32) = _
  rw [BitVec.toNat_setWidth, BitVec.toNat_setWidth, g]
  omega
end StrChars
end Jvm.Pilot.@@N@@

namespace Jvm.Pilot.@@N@@
open Jvm Jvm.ClassFile Sem Op Lib Jvm.Free Jvm.Stand Jvm.LawKit Jvm.RoadKit Bundle Jvm.Pilot.@@N@@.Jvm.D
/-! own kit: the goal of a walk as one word, and how a step and a return change it -/
theorem wq {Z : State} {a0 : Array Value} (hw : ∀ d ∈ tables_1, d.before a0 Z = true) (i : Nat) {d : Jvm.Cond} (h : tables_1[i]? = some d) : d.before a0 Z = true := hw d (List.mem_of_getElem? h)
def Gl (tb : Tables) (e : Env) (below : List Frame) (s : State) (Q : Option Value → Heap → List Loc → Prop) (ce sl : Nat) (A : State) : Prop :=
  ∃ s₂ o, Steps tb e below A s₂ ∧ s₂.status = .running ∧ Ended s₂ below o ∧ ∃ v L, o = .returned v ∧ Q v s₂.heap L ∧ FrameEnd s o s₂ L ce sl
theorem Gl.pre {tb : Tables} {e : Env} {below : List Frame} {s : State} {Q : Option Value → Heap → List Loc → Prop} {ce sl : Nat} {A B : State} (h : ∀ t, Steps tb e below B t → Steps tb e below A t) (g : Gl tb e below s Q ce sl B) : Gl tb e below s Q ce sl A := by
  obtain ⟨s2, o, h1, r⟩ := g
  exact ⟨s2, o, h _ h1, r⟩
theorem Gl.out {p : Program} {l : Launch} {e : Env} {R : Room} {s : State} {m : MethodId} {args : Array Value} {below : List Frame} {meth : Method} {c : Code} {T : State} {locs : List Loc} {cells slots : Nat}
    (X : Stand p l e R s m args below meth c T locs cells slots) {Q : Option Value → Heap → List Loc → Prop} {ce sl : Nat} {g : JFrame} {v : Option Value} (hv : meth.sig.returnType = none → v = none) (hlk : meth.locks = false)
    (k : ∀ fs, (∀ (f : JFrame) (acts : List Action), f.method = m → f.locked = none → f.entered = [] → (doReturn e (T.setTop f) acts v).1 = T.setFrames fs) → Steps p.tables e below (T.setTop g) (T.setFrames fs))
    (hq : Q v T.heap locs) (h1 : cells ≤ ce) (h2 : slots ≤ sl) : Gl p.tables e below s Q ce sl (T.setTop g) := by
  obtain ⟨fs, hr, hrun, hended, hW, hsame⟩ := X.leave (v := v) hv hlk
  exact ⟨_, _, k fs hr, hrun, hended, v, locs, rfl, hq, ⟨v, rfl⟩, hW, hsame.mono h1 h2⟩
theorem own_reb {p : Program} {l : Launch} {e : Env} {R : Room} {s : State} {m : MethodId} {args : Array Value} {below : List Frame} {meth : Method} {c : Code} {T : State} {L L' : List Loc} {k k' n n' : Nat} (X : Stand p l e R s m args below meth c T L k n) (h1 : L = L') (h2 : k = k') (h3 : n = n') : Stand p l e R s m args below meth c T L' k' n' := by
  subst h1 h2 h3
  exact X
def bI (b : Bool) : Int32 := if b then 1 else 0
theorem bI_t {b : Bool} (h : b = true) : ¬ bI b = (0 : Int32) := by subst h; decide
theorem bI_f {b : Bool} (h : b = false) : bI b = (0 : Int32) := by subst h; rfl
theorem bI_nar (b : Bool) : nar .boolean (bI b) = bI b := by cases b <;> rfl
theorem bI_inj {a b : Bool} : bI a = bI b ↔ a = b := by cases a <;> cases b <;> decide
theorem own_narO {v : Value} {C : String} (h : v.isRef = true) : narrow (.object C) v = v := by rcases ref_cases h with rfl | ⟨_, rfl⟩ <;> rfl
theorem own_fitO {v : Value} {C : String} (h : v.isRef = true) : fits (.object C) v = true := by rcases ref_cases h with rfl | ⟨_, rfl⟩ <;> rfl
theorem own_ext_refl (h : Heap) : Ext h h := ⟨Nat.le_refl _, fun _ _ q => q⟩
theorem own_ext_ext {hb h h' : Heap} (X : Ext hb h) (E : Ext h h') : Ext hb h' := ⟨Nat.le_trans X.1 E.1, fun a c q => E.2 a c (X.2 a c q)⟩
theorem own_ext_keep {hb h h' : Heap} {ws : List Addr} (X : Ext hb h) (K : Keep h h' ws) (q : ∀ x ∈ ws, hb.size ≤ x) : Ext hb h' := ⟨Nat.le_trans X.1 K.1, fun a c r => K.2.1 a c (X.2 a c r) fun z => absurd (Array.getElem?_eq_some_iff.mp r).1 (Nat.not_lt.mpr (q a z))⟩
theorem own_ext_wr {hb h h' : Heap} {a : Addr} {sl : Nat} {v : Value} (X : Ext hb h) (W : Wr h h' a sl v) (q : hb.size ≤ a) : Ext hb h' := own_ext_keep X (Keep.of_wr W) (allS q all0)
theorem own_declares {Z : State} {a0 : Array Value} {y : MethodName} {bytes : ByteArray} {maxL : Nat} {ret : Option FieldType} (hi : (Jvm.Cond.instanceMethod y).before a0 Z = true) (hc : (Jvm.Cond.code y bytes maxL ret).before a0 Z = true) : (Jvm.Cond.declares y).before a0 Z = true := by
  obtain ⟨mk, methM, hnamed, hmethM, hstM, habM⟩ := Cond.instanceMethod_spec hi
  obtain ⟨methM', cM, hmethM', -, -, -, -, -, -, hsigM⟩ := Cond.code_spec hnamed hc
  cases hmethM.symm.trans hmethM'
  simp [Cond.before, Cond.holds, Cond.value, hnamed, hmethM, hstM, hsigM]
theorem own_same {Z : State} {a0 : Array Value} {C : String} {y x' z : MethodName} (hi : (Jvm.Cond.instanceMethod y).before a0 Z = true) (hs : (Jvm.Cond.selects C x' z).before a0 Z = true) (e : z.cls = y.cls) (hy : y.cls ≠ "java/lang/invoke/MethodHandle" ∧ y.cls ≠ "java/lang/invoke/VarHandle") : (Jvm.Cond.sameMethod y.cls y.cls y.name y.desc).before a0 Z = true := by
  obtain ⟨mk, methM, hnamed, hmethM, hstM, habM⟩ := Cond.instanceMethod_spec hi
  obtain ⟨c, r, m, -, -, q3, -, k, hk, hki⟩ := Cond.selects_spec hs
  have h1 := findClass_of_methodNamed hnamed
  have h2 := findClass_of_methodNamed q3
  rw [e, h1] at h2
  have h4 : mk.cls = m.cls := Option.some.inj h2
  rw [← h4] at hk
  have h3 := State.methodFound?_of_named hnamed hy
  simp [Cond.before, Cond.holds, Cond.value, h1, h3, hnamed, hk, hki]
theorem own_nf {s : State} {args : Array Value} {C : String} {y x' z : MethodName} (hs : (Jvm.Cond.selects C x' z).before args s = true) (e : z.cls = y.cls) : NotFace s y := fun r0 h0 => by
  obtain ⟨c, r, m, -, -, q3, -, k, hk, hki⟩ := Cond.selects_spec hs
  have h1 := findClass_of_methodNamed h0
  have h2 := findClass_of_methodNamed q3
  rw [e, h1] at h2
  have h4 : r0.cls = m.cls := Option.some.inj h2
  exact ⟨k, by rw [h4]; exact hk, hki⟩
theorem own_shl0 (x : Int32) : x <<< ((0 : Int32) &&& 31) = x := by
  have : (0 : Int32) &&& 31 = 0 := by decide
  rw [this]; simp
theorem own_shr0 (x : Int32) : x >>> ((0 : Int32) &&& 31) = x := by
  have : (0 : Int32) &&& 31 = 0 := by decide
  rw [this]; simp
theorem own_sub0 (x : Int32) : x - (0 : Int32) = x := by simp
theorem own_keep0 {h h' : Heap} (K : Keep h h' []) : Ext h h' := ⟨K.1, fun a c q => K.2.1 a c q nin0⟩
/-! own kit, wide: a walk that may load String constants -/
def GlW (tb : Tables) (e : Env) (below : List Frame) (s : State) (EL : List (String × Nat)) (Z : State) (Q : Option Value → Heap → List Loc → Prop) (ce sl : Nat) (A : State) : Prop :=
  ∃ s₂ o, Steps tb e below A s₂ ∧ s₂.status = .running ∧ Ended s₂ below o ∧ ∃ v L, o = .returned v ∧ Q v s₂.heap L ∧ CHr Z EL s.vm s.heap s₂.vm s₂.heap ∧ ReturnedEndW s o s₂ L ce sl
theorem GlW.pre {tb : Tables} {e : Env} {below : List Frame} {s : State} {EL : List (String × Nat)} {Z : State} {Q : Option Value → Heap → List Loc → Prop} {ce sl : Nat} {A B : State} (h : ∀ t, Steps tb e below B t → Steps tb e below A t) (g : GlW tb e below s EL Z Q ce sl B) : GlW tb e below s EL Z Q ce sl A := by
  obtain ⟨s2, o, h1, r⟩ := g
  exact ⟨s2, o, h _ h1, r⟩
theorem GlW.out {p : Program} {l : Launch} {e : Env} {R : Room} {s : State} {m : MethodId} {args : Array Value} {below : List Frame} {meth : Method} {c : Code} {T : State} {locs : List Loc} {cells slots : Nat} {vm0 : Vm} {k0 : Nat} {h0 H : Heap} {Z : State} {a0 : Array Value} {EL : List (String × Nat)}
    (X : Stand p l e R (s.setVm vm0) m args below meth c T locs cells slots) (hsh : s.heap = h0) (eT : T.heap = H) (hS : s.Since vm0 k0) (hk : k0 ≤ H.size) (hZ : Z.Warmed39 (s.setVm vm0).vm) (hEL : EW Z a0 EL) (CR : CHr Z EL s.vm h0 vm0 H)
    {Q : Option Value → Heap → List Loc → Prop} {ce sl : Nat} {g : JFrame} {v : Option Value} (hv : meth.sig.returnType = none → v = none) (hlk : meth.locks = false)
    (k : ∀ fs, (∀ (f : JFrame) (acts : List Action), f.method = m → f.locked = none → f.entered = [] → (doReturn e (T.setTop f) acts v).1 = T.setFrames fs) → Steps p.tables e below (T.setTop g) (T.setFrames fs))
    (hq : Q v T.heap locs) (h1 : cells ≤ ce) (h2 : slots ≤ sl) : GlW p.tables e below s EL Z Q ce sl (T.setTop g) := by
  subst hsh eT
  obtain ⟨fs, hr, hrun, hended, hR⟩ := X.leaveW hS hk (v := v) hv hlk
  exact ⟨_, _, k fs hr, hrun, hended, v, locs, rfl, hq, (show CHr Z EL s.vm s.heap T.vm T.heap from CR.trans (CHv.at X hZ hEL CR.1)), hR.1, hR.2.1, hR.2.2.1, hR.2.2.2.mono h1 h2⟩
theorem sa_in : ∀ d ∈ Bundle.stringAtoms, d ∈ tables_1 := by decide +kernel
theorem string_atoms {Z : State} {a0 : Array Value} (hw : ∀ d ∈ tables_1, d.before a0 Z = true) : ∀ d ∈ Bundle.stringAtoms, d.before a0 Z = true := fun d hd => hw d (sa_in d hd)
theorem and255_chars (x : Int32) : ¬ nar .char ((x &&& (255 : Int32)).toUInt32.toUInt16.toUInt32.toInt32) < 0 ∧ ¬ (255 : Int32) < nar .char ((x &&& (255 : Int32)).toUInt32.toUInt16.toUInt32.toInt32) := by
  have t : ∀ k : Fin 256, ¬ nar .char ((Int32.ofNat k.val).toUInt32.toUInt16.toUInt32.toInt32) < 0 ∧ ¬ (255 : Int32) < nar .char ((Int32.ofNat k.val).toUInt32.toUInt16.toUInt32.toInt32) := by decide +kernel
  have h : (x &&& 255).toBitVec.toNat < 256 := by
    simp only [Int32.toBitVec_and, BitVec.toNat_and]
    exact Nat.lt_succ_of_le Nat.and_le_right
  have e : (x &&& 255) = Int32.ofNat (x &&& 255).toBitVec.toNat := by
    apply Int32.toBitVec_inj.mp
    show _ = BitVec.ofNat 32 _
    rw [BitVec.ofNat_toNat]; simp
  rw [e]
  exact t ⟨_, h⟩
theorem al0 {P : Int32 → Prop} : ∀ c ∈ ([] : List Int32), P c := fun _ q => nomatch q
theorem alS {P : Int32 → Prop} {y : Int32} {L : List Int32} (q : P y) (r : ∀ c ∈ L, P c) : ∀ c ∈ y :: L, P c := fun x z => (List.mem_cons.mp z).elim (fun u => u ▸ q) (r x)
/-- the String at x spells cs, each sign 0 to 255 -/
def StrV (Z : State) (h : Heap) (x t : Addr) (k : ClassId) (cs : List Int32) : Prop := Exa Z h x "java/lang/String" ∧ Fld Z h x "java/lang/String" "value" "[B" (.ref t) ∧ Fld Z h x "java/lang/String" "coder" "B" (.int 0) ∧ Arv Z h t k .byte (Int32.ofNat cs.length) ((cs.map (fun c => c.toInt8.toInt32)).map Value.int) (.int 0) ∧ (∀ c ∈ cs, ¬ c < 0 ∧ ¬ (255 : Int32) < c) ∧ cs.length ≤ 4000
theorem StrV.ext {Z : State} {h h' : Heap} {x t : Addr} {k : ClassId} {cs : List Int32} (F : StrV Z h x t k cs) (E : Ext h h') : StrV Z h' x t k cs := ⟨F.1.ext E, F.2.1.ext E, F.2.2.1.ext E, F.2.2.2.1.ext E, F.2.2.2.2⟩
theorem up255 {cs : List Int32} (h : ∀ c ∈ cs, ¬ c < 0 ∧ ¬ (255 : Int32) < c) : ∀ c ∈ cs, ¬ c < 0 ∧ ¬ (65535 : Int32) < c := fun c hc => ⟨(h c hc).1, fun q => (h c hc).2 (by rw [Int32.lt_iff_toInt_lt] at q ⊢; have e1 : (65535 : Int32).toInt = 65535 := rfl; have e2 : (255 : Int32).toInt = 255 := rfl; omega)⟩
/-- a String or null -/
def SO (Z : State) (h : Heap) (v : Value) (o : Option (List Int32)) : Prop := (v = .null ∧ o = none) ∨ ∃ (x t : Addr) (k : ClassId) (cs : List Int32), v = .ref x ∧ o = some cs ∧ StrV Z h x t k cs
theorem SO.isRef {Z : State} {h : Heap} {v : Value} {o : Option (List Int32)} (F : SO Z h v o) : v.isRef = true := by rcases F with ⟨rfl, -⟩ | ⟨_, _, _, _, rfl, -⟩ <;> rfl
theorem SO.ext {Z : State} {h h' : Heap} {v : Value} {o : Option (List Int32)} (F : SO Z h v o) (E : Ext h h') : SO Z h' v o := by
  rcases F with F | ⟨x, t, k, cs, h1, h2, F⟩
  · exact Or.inl F
  · exact Or.inr ⟨x, t, k, cs, h1, h2, F.ext E⟩
/-! lists of bytes, and a StringBuilder's state -/
abbrev byt (cs : List Int32) : List Value := (cs.map (fun c => c.toInt8.toInt32)).map Value.int
theorem byt_len (cs : List Int32) : (byt cs).length = cs.length := by simp
theorem byt_app (cs ds : List Int32) : byt (cs ++ ds) = byt cs ++ byt ds := by simp
theorem own_n32 {n : Nat} (h : n < 2147483648) : (Int32.ofNat n).toNatClampNeg = n := by
  have h1 : (Int32.ofNat n).toInt = n := Int32.toInt_ofNat_of_lt h
  have h2 : ((Int32.ofNat n).toNatClampNeg : Int) = (Int32.ofNat n).toInt := by
    show ((Int32.ofNat n).toInt.toNat : Int) = _
    omega
  omega
theorem own_toInt {n : Nat} (h : n < 2147483648) : (Int32.ofNat n).toInt = n := Int32.toInt_ofNat_of_lt h
theorem own_nn {n : Nat} (h : n < 2147483648) : ¬ Int32.ofNat n < 0 := by
  rw [Int32.lt_iff_toInt_lt, own_toInt h]
  have e0 : (0 : Int32).toInt = 0 := rfl
  omega
theorem own_add32 (a b : Nat) : Int32.ofNat a + Int32.ofNat b = Int32.ofNat (a + b) := (Int32.ofNat_add a b).symm
theorem own_us (vs : List Value) (dv : Value) {n : Nat} (h : n = vs.length) : vs = (List.range n).map fun i => vs.getD (0 + i) dv := by
  subst h
  apply List.ext_getElem
  · simp
  · intro i h1 h2
    simp [List.getD_eq_getElem?_getD, h1]
theorem own_us2 (vs ws : List Value) (dv : Value) {n : Nat} (h : n = vs.length) : vs = (List.range n).map fun i => (vs ++ ws).getD (0 + i) dv := by
  subst h
  apply List.ext_getElem
  · simp
  · intro i h1 h2
    simp [List.getD_eq_getElem?_getD, List.getElem?_append_left h1, h1]
theorem sb_cat {cs ds : List Int32} {cap : Nat} (h : cs.length + ds.length ≤ cap) : (byt cs ++ List.replicate (cap - cs.length) (Value.int 0)).take cs.length ++ byt ds ++ (byt cs ++ List.replicate (cap - cs.length) (Value.int 0)).drop (cs.length + ds.length) = byt (cs ++ ds) ++ List.replicate (cap - (cs ++ ds).length) (Value.int 0) := by
  have e1 : (byt cs ++ List.replicate (cap - cs.length) (Value.int 0)).take cs.length = byt cs := by
    conv => lhs; rw [← byt_len cs]
    exact List.take_left
  have e2 : (byt cs ++ List.replicate (cap - cs.length) (Value.int 0)).drop (cs.length + ds.length) = List.replicate (cap - (cs ++ ds).length) (Value.int 0) := by
    conv => lhs; rw [← byt_len cs]
    rw [List.drop_append, byt_len]
    have : cs.length + ds.length - cs.length = ds.length := by omega
    rw [List.drop_eq_nil_of_le (by rw [byt_len]; omega), this, List.nil_append, List.drop_replicate]
    congr 1
    simp; omega
  rw [e1, e2, byt_app]
theorem sb_out {vs : List Value} {n : Nat} (h : n = vs.length) : (List.replicate n (Value.int (0 : Int32))).take 0 ++ vs ++ (List.replicate n (Value.int (0 : Int32))).drop (0 + n) = vs := by
  subst h; simp
def SBN : String := "java/lang/StringBuilder"
/-- the StringBuilder at x holds cs, in an array t of cap bytes -/
def SBs (Z : State) (h : Heap) (x t : Addr) (k : ClassId) (cap : Nat) (cs : List Int32) : Prop := Exa Z h x "java/lang/StringBuilder" ∧ Fld Z h x "java/lang/AbstractStringBuilder" "value" "[B" (.ref t) ∧ Fld Z h x "java/lang/AbstractStringBuilder" "coder" "B" (.int (0 : Int32)) ∧ Fld Z h x "java/lang/AbstractStringBuilder" "count" "I" (.int (Int32.ofNat cs.length)) ∧ Arv Z h t k .byte (Int32.ofNat cap) (byt cs ++ List.replicate (cap - cs.length) (.int 0)) (.int 0) ∧ cs.length ≤ cap ∧ cap ≤ 1000 ∧ ∀ c ∈ cs, ¬ c < 0 ∧ ¬ (255 : Int32) < c
theorem SBs.ext {Z : State} {h h' : Heap} {x t : Addr} {k : ClassId} {cap : Nat} {cs : List Int32} (F : SBs Z h x t k cap cs) (E : Ext h h') : SBs Z h' x t k cap cs := ⟨F.1.ext E, F.2.1.ext E, F.2.2.1.ext E, F.2.2.2.1.ext E, F.2.2.2.2.1.ext E, F.2.2.2.2.2⟩
theorem SBs.lt {Z : State} {h : Heap} {x t : Addr} {k : ClassId} {cap : Nat} {cs : List Int32} (F : SBs Z h x t k cap cs) : x < h.size := F.1.lt
theorem own_all_app {P : Int32 → Prop} {cs ds : List Int32} (h1 : ∀ c ∈ cs, P c) (h2 : ∀ c ∈ ds, P c) : ∀ c ∈ cs ++ ds, P c := fun c hc => (List.mem_append.mp hc).elim (h1 c) (h2 c)
theorem own_max {p : Int32} (h : ¬ (18 : Int32) < p) : (if p < (18 : Int32) then (18 : Int32) else p) = (18 : Int32) := by
  split
  · rfl
  · rename_i q
    apply Int32.toInt_inj.mp
    rw [Int32.lt_iff_toInt_lt] at h q
    omega
theorem sb_grow {cs : List Int32} (h : cs.length ≤ 16) : (List.replicate 34 (Value.int (0 : Int32))).take 0 ++ (byt cs ++ List.replicate (16 - cs.length) (Value.int 0)) ++ (List.replicate 34 (Value.int (0 : Int32))).drop (0 + 16) = byt cs ++ List.replicate (34 - cs.length) (Value.int 0) := by
  rw [List.take_zero, List.nil_append, List.drop_replicate, List.append_assoc, List.replicate_append_replicate]
  congr 2
  omega
theorem sb_fill (cs : List Int32) (h : cs.length ≤ 16) : (16 : Nat) = (byt cs ++ List.replicate (16 - cs.length) (Value.int (0 : Int32))).length := by simp; omega
theorem own_le16 {m : Nat} (h : m ≤ 16) : ¬ ((0 : Int32) < (Int32.ofNat m - Int32.ofNat 16)) := by
  rw [Int32.lt_iff_toInt_lt]
  have e0 : (0 : Int32).toInt = 0 := rfl
  rw [e0, XT.sub32 (by rw [own_toInt (by omega), own_toInt (by omega)]; constructor <;> omega), own_toInt (by omega), own_toInt (by omega)]; omega
theorem own_sub16 {m : Nat} (h1 : 16 < m) (h2 : m ≤ 34) : (0 : Int32) < (Int32.ofNat m - (16 : Int32)) ∧ ¬ (18 : Int32) < (Int32.ofNat m - (16 : Int32)) := by
  have e : (Int32.ofNat m - (16 : Int32)).toInt = (m : Int) - 16 := by
    rw [show (16 : Int32) = Int32.ofNat 16 from rfl, XT.sub32 (by rw [own_toInt (by omega), own_toInt (by omega)]; constructor <;> omega), own_toInt (by omega), own_toInt (by omega)]; rfl
  have e0 : (0 : Int32).toInt = 0 := rfl
  have e1 : (18 : Int32).toInt = 18 := rfl
  rw [Int32.lt_iff_toInt_lt, Int32.lt_iff_toInt_lt, e]
  omega
theorem StrV.keep {Z : State} {h h' : Heap} {x t : Addr} {k : ClassId} {cs : List Int32} {ws : List Addr} (F : StrV Z h x t k cs) (K : Keep h h' ws) (q1 : x ∉ ws) (q2 : t ∉ ws) : StrV Z h' x t k cs := ⟨F.1.keep K, F.2.1.keep K q1, F.2.2.1.keep K q1, F.2.2.2.1.keep K q2, F.2.2.2.2⟩
open Jvm.Free.SBG
theorem own_eqv {Z : State} {args : Array Value} {t : Term} {ix : List Nat} {r : Term} {v : Int32} (hr : r.eval args Z none ix Z = some (.int v)) (h : (Jvm.Cond.eq t r).value args Z none Z ix = some true) : t.eval args Z none ix Z = some (.int v) := by
  cases he : t.eval args Z none ix Z with
  | none => simp [Cond.value, he] at h
  | some w =>
    cases w <;> simp [Cond.value, he, hr] at h
    rw [h]
theorem own_bytesC {Z : State} {args : Array Value} {name : String} {rhs : Term} {F : Nat → Nat} (hF : ∀ r, r < 100 → F r < 128) (h3 : (Jvm.Cond.eq (.length (Tof name)) (.int 100)).before args Z = true)
    (h4 : (Jvm.Cond.all (Tof name) (.eq (.elem (Tof name) (.index 0)) rhs)).before args Z = true) (hr : ∀ r, r < 100 → rhs.eval args Z none [r] Z = some (.int (Int32.ofNat (F r)))) : (bytesC (Tof name)).before args Z = true := by
  have hl := own_eqv (Term.int_eval 100) (Cond.before_iff.mp h3)
  obtain ⟨d, D, ev, harr, hv⟩ := Term.length_spec hl
  have h31 := length_lt ev harr hl
  have hsz : D.slots.size = 100 := by
    have h2 : Int32.ofNat D.slots.size = Int32.ofNat 100 := (Value.int.inj hv).symm
    have := congrArg Int32.toInt h2
    rw [Int32.toInt_ofNat_small h31, Int32.toInt_ofNat_small (by omega)] at this; omega
  have h4' := Cond.all_elim ev harr (Cond.before_iff.mp h4)
  refine Cond.before_iff.mpr (Cond.all_intro ev harr fun i hi => ?_)
  have hi' : i < 100 := by omega
  have e := own_eqv (hr i hi') (h4' i hi)
  have hb := hF i hi'
  refine and_i ?_ ?_
  · rw [Cond.le_ints (Term.int_eval (-128)) e]
    refine congrArg some (decide_eq_true ?_)
    rw [Int32.le_iff_toInt_le, Int32.toInt_ofNat_small (by omega)]
    have e1 : (-128 : Int32).toInt = -128 := rfl
    omega
  · rw [Cond.le_ints e (Term.int_eval 127)]
    refine congrArg some (decide_eq_true ?_)
    rw [Int32.le_iff_toInt_le, Int32.toInt_ofNat_small (by omega)]
    have e1 : (127 : Int32).toInt = 127 := rfl
    omega
theorem own_tabs {Z : State} {args : Array Value} (hs : ∀ d ∈ jdkStatics_1, d.before args Z = true) (harr : (Jvm.Cond.arrayClass .byte).before args Z = true) :
    ∃ (st d1 d2 : Addr) (D1 D2 : Cell), Tbl Z "DigitOnes" st d1 D1 ∧ Ones D1 ∧ Tbl Z "DigitTens" st d2 D2 ∧ Tens D2 := by
  have g : ∀ (i : Nat) (d : Jvm.Cond), jdkStatics_1[i]? = some d → d.before args Z = true := fun i d h => hs d (List.mem_of_getElem? h)
  have b1 : (bytesC (Tof "DigitOnes")).before args Z = true := own_bytesC (F := fun r => 48 + r % 10) (fun r hr => by omega) (g 13 _ rfl) (g 14 _ rfl) (fun r hr => by rw [← ones_num r hr]; rfl)
  have b2 : (bytesC (Tof "DigitTens")).before args Z = true := own_bytesC (F := fun r => 48 + r / 10) (fun r hr => by omega) (g 18 _ rfl) (g 19 _ rfl) (fun r hr => by rw [← tens_num r hr]; rfl)
  have w1 : ∀ w ∈ tblW "DigitOnes", w.before args Z = true := by
    intro w hw
    simp only [tblW, List.mem_cons, List.not_mem_nil, or_false] at hw
    rcases hw with rfl | rfl | rfl | rfl
    · exact g 10 _ rfl
    · exact g 12 _ rfl
    · exact g 13 _ rfl
    · exact b1
  have w2 : ∀ w ∈ tblW "DigitTens", w.before args Z = true := by
    intro w hw
    simp only [tblW, List.mem_cons, List.not_mem_nil, or_false] at hw
    rcases hw with rfl | rfl | rfl | rfl
    · exact g 15 _ rfl
    · exact g 17 _ rfl
    · exact g 18 _ rfl
    · exact b2
  obtain ⟨c, k, st, d1, D1, q1, q2, q3, T1, O1⟩ := ones_of_words w1 (g 14 _ rfl) (g 9 _ rfl) harr
  obtain ⟨c', k', st', d2, D2, r1, r2, r3, T2, O2⟩ := tens_of_words w2 (g 19 _ rfl) (g 9 _ rfl) harr
  cases q1.symm.trans r1
  cases q2.symm.trans r2
  cases q3.symm.trans r3
  exact ⟨st, d1, d2, D1, D2, T1, O1, T2, O2⟩

/-- Integer.getChars, as a callee in this family: what the library says of it (GetChars.gets), told of heaps -/
def Qgc (g : GetChars.G) (h : Heap) (n0 : Nat) (v : Option Value) (h' : Heap) (L : List Loc) : Prop := v = some (.int (Int32.ofNat (g.idx - (SBG.digits g.n + GetChars.sgn g.x)))) ∧ Fr n0 L ∧ Keep h h' [g.da] ∧ h'[g.da]? = some (GetChars.outCell g)
theorem own_gc {p : Program} {l : Launch} {e : Env} {R : Room} {s : State} {args : Array Value} {below : List Frame} {W n0 : Nat} {Z : State} {a0 : Array Value} {h : Heap} (g : GetChars.G) (hZ : Z.Warmed39 s.vm) (htab : GetChars.tab.before a0 Z = true) (hini : (Jvm.Cond.initialized INT).before a0 Z = true)
    (hP : ∀ U : State, Z.vm.Alike U.vm → U.heap = h → GetChars.P g #[.int g.x, .int (Int32.ofNat g.idx), .ref g.da] U) (hA : h[g.da]? = some g.A) (hby : ∀ i, i < g.A.slots.size → fits .byte (g.A.slots.getD i .null) = true) (hn : g.n ≤ 2 ^ 31) (hroom : SBG.digits g.n + GetChars.sgn g.x ≤ g.idx) (hg : n0 ≤ g.da) (hfr : 2 ≤ R.frames) (hlo : W + 78 ≤ R.locals) :
    Back l R p e below s args GetChars.gcN 3 W (fun A a => a = #[.int g.x, .int (Int32.ofNat g.idx), .ref g.da] ∧ A.U.heap = h ∧ A.cells + 0 ≤ R.cells ∧ A.slots + 0 ≤ R.slots)
      (fun A _ v B => ∃ L, Qgc g h n0 v B.U.heap L ∧ B.locs = A.locs ++ L ∧ B.cells = A.cells + 0 ∧ B.slots = A.slots + 0) := by
  refine Back.of_free (S := GetChars.spec) (P := GetChars.P g) (K := fun _ _ _ _ _ => True) (Q := GetChars.Q g) (bytes := GetChars.gcB) (maxL := 7) (ret := some .int)
    (E := fun a first o t L k n' => k = 0 ∧ n' = 0 ∧ o = .returned (some (.int (Int32.ofNat (g.idx - (SBG.digits g.n + GetChars.sgn g.x))))) ∧ t.heap[g.da]? = some (GetChars.outCell g) ∧ (∀ (y : Addr) (cy : Cell), y ≠ g.da → first.heap[y]? = some cy → t.heap[y]? = some cy) ∧ first.heap.size ≤ t.heap.size ∧ ∀ w ∈ L, w.base = g.da)
    (GetChars.gets l g) (by show 1 + 1 ≤ R.frames; omega) (by show W + (7 + 11) + 60 ≤ R.locals; omega) ?_ ?_ (fun _ _ _ _ _ _ _ _ _ => trivial) ?_ ?_
  · rintro m' meth' c' A a X ⟨rfl, -, hc, hs⟩
    have hU : Z.Warmed39 A.U.vm := wtrans hZ X.warmed
    have ht : GetChars.tab.before #[Value.int g.x, .int (Int32.ofNat g.idx), .ref g.da] A.U = true := by
      simp only [GetChars.tab, Cond.before_and, Bool.and_eq_true] at htab ⊢
      exact ⟨mv hU htab.1, mv hU htab.2.1, mv hU htab.2.2⟩
    have hcode := ht
    simp only [GetChars.tab, Cond.before_and, Bool.and_eq_true] at hcode
    refine ⟨?_, hcode.1, mv hU hini, hc, hs⟩
    simp only [GetChars.spec, Cond.before_and, Bool.and_eq_true]
    exact ⟨by simp [Cond.before, Cond.holds, Cond.value], by simpa only [GetChars.tab, Cond.before_and, Bool.and_eq_true] using ht⟩
  · rintro m' meth' c' A a g' mk X ⟨rfl, hh, -, -⟩
    rw [State.calling_eq X.here.top]
    exact hP _ (wtrans hZ X.warmed).alike hh
  · rintro a first o t ⟨ho, ht, hk, L, hL, hfe⟩
    exact ⟨L, 0, 0, hfe, rfl, rfl, ho, ht, hk, hfe.2.2.2.1, hL⟩
  · rintro m' meth' c' A a g' mk v t L k n' X ⟨rfl, hh, -, -⟩ - hfe ⟨rfl, rfl, ho, ht, hk, hsz, hL⟩
    have eh : (A.U.calling g' mk #[Value.int g.x, .int (Int32.ofNat g.idx), .ref g.da]).heap = h := by rw [State.calling_eq X.here.top]; exact hh
    rw [eh] at hk hsz
    obtain ⟨f1, f2, f3, -, -⟩ := GetChars.outCell_facts g hn hroom hby
    refine ⟨L, ⟨Outcome.returned.inj ho, fun y hy => by rw [hL y hy]; exact hg, ⟨hsz, fun x c q r => hk x c (fun z => r (by rw [z]; exact List.mem_singleton.mpr rfl)) q, fun x c q => ?_⟩, ht⟩, rfl, rfl, rfl⟩
    by_cases hx : x = g.da
    · subst hx
      cases hA.symm.trans q
      exact ⟨_, ht, f1, f2, f3⟩
    · exact ⟨c, hk x c hx q, rfl, rfl, rfl⟩
def absN (x : Int32) : Nat := x.toInt.natAbs
theorem abs_le (x : Int32) : absN x ≤ 2 ^ 31 := by
  have h1 := x.le_toInt; have h2 := x.toInt_lt
  unfold absN; omega
theorem abs_neg (x : Int32) : (if x < 0 then x else -x) = negI (absN x) := by
  have h1 := x.le_toInt; have h2 := x.toInt_lt
  have e0 : (0 : Int32).toInt = 0 := rfl
  apply Int32.toInt_inj.mp
  rw [negI_toInt (abs_le x)]
  unfold absN
  split
  · rename_i h; rw [Int32.lt_iff_toInt_lt, e0] at h; omega
  · rename_i h; rw [Int32.lt_iff_toInt_lt, e0] at h
    rw [Int32.toInt_neg, Int.bmod_eq_of_le (by omega) (by omega)]; omega
abbrev dgN (x : Int32) : Nat := SBG.digits (absN x)
abbrev szN (x : Int32) : Nat := SBG.digits (absN x) + GetChars.sgn x
/-- the decimal text of x -/
def decL (x : Int32) : List Int32 := (if x < 0 then [45] else []) ++ (List.range (dgN x)).map (fun t => Int32.ofNat (48 + absN x / 10 ^ (dgN x - 1 - t) % 10))
theorem decL_len (x : Int32) : (decL x).length = szN x := by
  unfold decL szN GetChars.sgn
  split <;> simp <;> omega
theorem decL_sign {x : Int32} (h : x < 0) : (decL x).getD 0 0 = 45 := by simp [decL, h]
theorem decL_dig {x : Int32} {t : Nat} (h : t < dgN x) : (decL x).getD (GetChars.sgn x + t) 0 = Int32.ofNat (48 + absN x / 10 ^ (dgN x - 1 - t) % 10) := by
  unfold decL GetChars.sgn
  split
  · rw [Nat.add_comm 1 t]; simp [List.getD_eq_getElem?_getD, h]
  · simp [List.getD_eq_getElem?_getD, h]
theorem dig_rng (m : Nat) : ¬ Int32.ofNat (48 + m % 10) < 0 ∧ ¬ (255 : Int32) < Int32.ofNat (48 + m % 10) := by
  rw [Int32.lt_iff_toInt_lt, Int32.lt_iff_toInt_lt, own_toInt (by omega)]
  have e0 : (0 : Int32).toInt = 0 := rfl
  have e1 : (255 : Int32).toInt = 255 := rfl
  omega
theorem decL_rng (x : Int32) : ∀ c ∈ decL x, ¬ c < 0 ∧ ¬ (255 : Int32) < c := by
  intro c hc
  rcases List.mem_append.mp hc with h | h
  · split at h
    · cases List.mem_singleton.mp h; decide
    · exact absurd h (List.not_mem_nil)
  · obtain ⟨t, -, rfl⟩ := List.mem_map.mp h
    exact dig_rng _
theorem pad_get (cs : List Int32) (m j : Nat) : (byt cs ++ List.replicate m (Value.int 0)).getD j (.int 0) = if j < cs.length then .int ((cs.getD j 0).toInt8.toInt32) else .int 0 := by
  rw [List.getD_eq_getElem?_getD]
  by_cases h : j < cs.length
  · rw [if_pos h, List.getElem?_append_left (by rw [byt_len]; exact h)]
    simp [List.getD_eq_getElem?_getD, h]
  · rw [if_neg h, List.getElem?_append_right (by rw [byt_len]; omega), List.getElem?_replicate]
    split <;> rfl
theorem fits_pad (cs : List Int32) (m j : Nat) : fits .byte ((byt cs ++ List.replicate m (Value.int 0)).getD j (.int 0)) = true := by
  rw [pad_get]
  split
  · exact fits_nar_byte _
  · rfl
theorem nar_dig (m : Nat) : (Int32.ofNat (48 + m % 10)).toInt8.toInt32 = Int32.ofNat (48 + m % 10) := dgNarrow _ (by omega)
/-- the array behind Integer.getChars, as a list -/
theorem own_gc_arv {Z : State} {h h' : Heap} {da st d1 d2 : Addr} {k : ClassId} {cap : Nat} {cs : List Int32} {x : Int32} {A D1 D2 : Cell} (hA : Arr Z h da A .byte) (hk : A.cls = k) (hS : A.slots.size = (Int32.ofNat cap).toNatClampNeg) (hH : Has A (byt cs ++ List.replicate (cap - cs.length) (.int 0)) (.int 0))
    (hcap : cap ≤ 1000) (hroom : cs.length + szN x ≤ cap) (o1 : Ones D1) (o2 : Tens D2)
    (ht : h'[da]? = some (GetChars.outCell ⟨x, absN x, cs.length + szN x, da, A, st, d1, D1, d2, D2⟩)) :
    Arv Z h' da k .byte (Int32.ofNat cap) (byt (cs ++ decL x) ++ List.replicate (cap - (cs ++ decL x).length) (.int 0)) (.int 0) := by
  have hS' : A.slots.size = cap := by rw [hS, own_n32 (by omega)]
  have hby : ∀ i, i < A.slots.size → fits .byte (A.slots.getD i .null) = true := fun i hi => by
    have q := hH i hi
    have e : A.slots.getD i .null = (byt cs ++ List.replicate (cap - cs.length) (Value.int 0)).getD i (.int 0) := by simp [Array.getD, hi] at q ⊢; exact q
    rw [e]; exact fits_pad _ _ _
  obtain ⟨f1, f2, f3, -, -⟩ := GetChars.outCell_facts ⟨x, absN x, cs.length + szN x, da, A, st, d1, D1, d2, D2⟩ (abs_le x) (by show szN x ≤ cs.length + szN x; omega) hby
  obtain ⟨w1, w2, w3⟩ := outCell_fwd ⟨x, absN x, cs.length + szN x, da, A, st, d1, D1, d2, D2⟩ o1 o2 (abs_le x) (n0 := cs.length) rfl (by show cs.length + szN x ≤ A.slots.size; omega)
  obtain ⟨-, -, w4⟩ := outCell_at ⟨x, absN x, cs.length + szN x, da, A, st, d1, D1, d2, D2⟩ o1 o2 (abs_le x) (by show szN x ≤ cs.length + szN x; omega) (by show cs.length + szN x ≤ A.slots.size; omega)
  dsimp only at f1 f2 f3 w1 w2 w3 w4
  generalize GetChars.outCell ⟨x, absN x, cs.length + szN x, da, A, st, d1, D1, d2, D2⟩ = B at *
  refine ⟨B, ⟨ht, ?_, by rw [f2]; exact hA.2.2⟩, f1.trans hk, by rw [f3, hS], own_nn (by omega), fun j hj => ?_, fun i hi => fits_pad _ _ _⟩
  · have := hA.2.1
    unfold State.isArrayOf at this ⊢
    rw [f1, f2]; exact this
  · rw [f3, hS'] at hj
    rw [pad_get, List.length_append, decL_len]
    by_cases c1 : j < cs.length
    · rw [w3 j c1, if_pos (by omega), hH j (by omega), pad_get, if_pos c1]
      simp [List.getD_eq_getElem?_getD, List.getElem?_append_left c1]
    · by_cases c2 : j < cs.length + szN x
      · rw [if_pos c2]
        have e : (cs ++ decL x).getD j 0 = (decL x).getD (j - cs.length) 0 := by simp [List.getD_eq_getElem?_getD, List.getElem?_append_right (Nat.le_of_not_lt c1)]
        rw [e]
        by_cases c3 : j < cs.length + GetChars.sgn x
        · have hx : x < 0 := by
            by_cases q : x < 0
            · exact q
            · simp [GetChars.sgn, q] at c3; omega
          have hj0 : j = cs.length := by simp [GetChars.sgn, hx] at c3; omega
          subst hj0
          rw [w1 hx, Nat.sub_self, decL_sign hx]; rfl
        · obtain ⟨t, rfl⟩ : ∃ t, j = cs.length + GetChars.sgn x + t := ⟨j - (cs.length + GetChars.sgn x), by omega⟩
          have ht' : t < dgN x := by
            have hz : szN x = dgN x + GetChars.sgn x := rfl
            omega
          rw [w2 t ht', show cs.length + GetChars.sgn x + t - cs.length = GetChars.sgn x + t from by omega, decL_dig ht', nar_dig]
      · rw [if_neg c2, w4 j (Or.inr (by omega)), hH j (by omega), pad_get, if_neg c1]
theorem own_tbl_lt {Z : State} {nm : String} {st d : Addr} {D : Cell} (T : Tbl Z nm st d D) : st < Z.heap.size ∧ d < Z.heap.size ∧ Z.heap[d]? = some D := by
  obtain ⟨cf, i, k, f, cellS, h1, h2, h3, h4, h5, h6, h7, h8, -⟩ := T
  exact ⟨(Array.getElem?_eq_some_iff.mp h5).1, (Array.getElem?_eq_some_iff.mp h8).1, h8⟩
theorem own_gcP {Z : State} {h : Heap} {n0 : Nat} {da st d1 d2 : Addr} {cap : Nat} {cs : List Int32} {x : Int32} {A D1 D2 : Cell} (Od : Old Z n0 h) (hA : Arr Z h da A .byte) (hS : A.slots.size = (Int32.ofNat cap).toNatClampNeg) (hcap : cap ≤ 1000) (hroom : cs.length + szN x ≤ cap) (hge : n0 ≤ da) (T1 : Tbl Z "DigitOnes" st d1 D1) (T2 : Tbl Z "DigitTens" st d2 D2) :
    ∀ U : State, Z.vm.Alike U.vm → U.heap = h → GetChars.P ⟨x, absN x, cs.length + szN x, da, A, st, d1, D1, d2, D2⟩ #[.int x, .int (Int32.ofNat (cs.length + szN x)), .ref da] U := by
  intro U hal hh
  have hS' : A.slots.size = cap := by rw [hS, own_n32 (by omega)]
  obtain ⟨a1, a2, a3⟩ := own_tbl_lt T1
  obtain ⟨b1, b2, b3⟩ := own_tbl_lt T2
  have e := Od.1
  refine ⟨rfl, by rw [hh]; exact hA.1, State.isArrayOf_alike hal hA.2.1, hA.2.2, by show A.slots.size < _; omega, by show cs.length + szN x ≤ A.slots.size; omega, by show szN x ≤ cs.length + szN x; omega, abs_le x, abs_neg x,
    T1.move hal (fun c q => by rw [hh]; exact Od.2.2 _ _ q) (by rw [hh]; exact Od.2.2 _ _ a3), T2.move hal (fun c q => by rw [hh]; exact Od.2.2 _ _ q) (by rw [hh]; exact Od.2.2 _ _ b3), ?_, ?_, ?_⟩
  · exact Nat.ne_of_gt (Nat.lt_of_lt_of_le a1 (Nat.le_trans (Nat.le_of_eq e) hge))
  · exact Nat.ne_of_gt (Nat.lt_of_lt_of_le a2 (Nat.le_trans (Nat.le_of_eq e) hge))
  · exact Nat.ne_of_gt (Nat.lt_of_lt_of_le b2 (Nat.le_trans (Nat.le_of_eq e) hge))
theorem own_by {A : Cell} {cs : List Int32} {m : Nat} (hH : Has A (byt cs ++ List.replicate m (.int 0)) (.int 0)) : ∀ i, i < A.slots.size → fits .byte (A.slots.getD i .null) = true := fun i hi => by
  have q := hH i hi
  have e : A.slots.getD i .null = (byt cs ++ List.replicate m (Value.int 0)).getD i (.int 0) := by simp [Array.getD, hi] at q ⊢; exact q
  rw [e]; exact fits_pad _ _ _
theorem own_ss {p : Program} {l : Launch} {e : Env} {R : Room} {s : State} {args : Array Value} {below : List Frame} {W n0 : Nat} {Z : State} {a0 : Array Value} {h : Heap} (x : Int32) (hZ : Z.Warmed39 s.vm) (htab : StrSize.tab.before a0 Z = true) (hini : (Jvm.Cond.initialized INT).before a0 Z = true) (hfr : 2 ≤ R.frames) (hlo : W + 55 ≤ R.locals) :
    Back l R p e below s args StrSize.ssN 3 W (fun A a => a = #[.int x] ∧ A.U.heap = h ∧ A.cells + 0 ≤ R.cells ∧ A.slots + 0 ≤ R.slots)
      (fun A _ v B => ∃ L, (v = some (.int (Int32.ofNat (szN x))) ∧ Fr n0 L ∧ B.U.heap = h) ∧ B.locs = A.locs ++ L ∧ B.cells = A.cells + 0 ∧ B.slots = A.slots + 0) := by
  refine Back.mono (StrSize.pays hfr hlo (mv hZ htab) (mv hZ hini)) (fun A a hp => ⟨hp.2.2.1, hp.2.2.2, x, ?_⟩) (fun A a v B hp hq => ?_)
  · exact hp.1
  · obtain ⟨q, r⟩ := hq
    have := r x hp.1
    rw [strSizeOf_eq (abs_le x) (abs_neg x)] at this
    exact ⟨[], ⟨this, Fr.nil _, q.1.trans hp.2.1⟩, by simpa using q.2.1, q.2.2.1, q.2.2.2⟩

def EL1 : List (String × Nat) := [("com/example/bourse/bourse/exchange/BoundedFile", 48), ("com/example/bourse/bourse/exchange/BoundedFile", 57), ("com/example/bourse/bourse/exchange/BoundedFileTooLongPinLaw", 35), ("com/example/bourse/bourse/exchange/BoundedFileTooLongPinLaw", 37)]
theorem ew_all {Z : State} {a0 : Array Value} (hw : ∀ d ∈ tables_1, d.before a0 Z = true) : EW Z a0 EL1 := (EW.cons (wq hw 29 rfl) (by decide) (EW.cons (wq hw 107 rfl) (by decide) (EW.cons (wq hw 238 rfl) (by decide) (EW.cons (wq hw 239 rfl) (by decide) EW.nil))))
open Jvm.Free.Exc
def preL : List Int32 := [108, 111, 110, 103, 101, 114, 32, 116, 104, 97, 110, 32]
def sufL : List Int32 := [32, 98, 121, 116, 101, 115]
theorem pre_s {Z : State} {h : Heap} {x t : Addr} {k : ClassId} (E : Exa Z h x "java/lang/String") (V : Fld Z h x "java/lang/String" "value" "[B" (.ref t)) (F : Fld Z h x "java/lang/String" "coder" "B" (.int 0)) (A : Arv Z h t k .byte 12 [(.int (108 : Int32)), (.int (111 : Int32)), (.int (110 : Int32)), (.int (103 : Int32)), (.int (101 : Int32)), (.int (114 : Int32)), (.int (32 : Int32)), (.int (116 : Int32)), (.int (104 : Int32)), (.int (97 : Int32)), (.int (110 : Int32)), (.int (32 : Int32))] (.int 0)) : StrV Z h x t k preL := ⟨E, V, F, A, by decide +kernel, by decide⟩
theorem suf_s {Z : State} {h : Heap} {x t : Addr} {k : ClassId} (E : Exa Z h x "java/lang/String") (V : Fld Z h x "java/lang/String" "value" "[B" (.ref t)) (F : Fld Z h x "java/lang/String" "coder" "B" (.int 0)) (A : Arv Z h t k .byte 6 [(.int (32 : Int32)), (.int (98 : Int32)), (.int (121 : Int32)), (.int (116 : Int32)), (.int (101 : Int32)), (.int (115 : Int32))] (.int 0)) : StrV Z h x t k sufL := ⟨E, V, F, A, by decide +kernel, by decide⟩
/-! Throwable.fillInStackTrace() on an IOException that the walk has made: the library's fillPays, its bundle built out of this sheet's words -/
abbrev ioN : String := "java/io/IOException"
abbrev badW : Jvm.Cond := .lays tN tN "suppressedExceptions" listD
theorem own_excW {Z : State} {a0 : Array Value} (hw : ∀ d ∈ tables_1, d.before a0 Z = true) : ∀ d ∈ excAtoms ioN, d ≠ badW → d.before a0 Z = true := fun d hd hn => hw d ((by decide +kernel : ∀ d ∈ excAtoms ioN, d ≠ badW → d ∈ tables_1) d hd hn)
set_option maxHeartbeats 4000000 in
theorem own_links {args : Array Value} {s : State} {pl : Platform} (howns : pl.frameOwnsMonitors = true) (hfin : pl.finalization = false) (hpl : pl.magicAccessors = ({} : Platform).magicAccessors)
    (W : ∀ d ∈ excAtoms ioN, d ≠ badW → d.before args s = true) :
    ∃ T : ThrowableC, T.Links pl s ∧ s.vm.findClass tN = some T.cT ∧ s.methodNamed? tFill = some T.fill ∧ s.methodNamed? tFill0 = some T.fill0 ∧
      (∃ i, s.fieldFound? tN "stackTrace" steD = some (T.cT, T.kT, i, T.fStack)) ∧ (∃ i, s.fieldFound? tN "UNASSIGNED_STACK" steD = some (T.cT, T.kT, i, T.fUnassigned)) ∧
      T.fStack.name = "stackTrace" ∧ T.fStack.type = .array (.object "java/lang/StackTraceElement") := by
  have w : ∀ d, d ∈ excAtoms ioN → d ≠ badW → d.holds args s none s [] = true := fun d h1 h2 => W d h1 h2
  obtain ⟨⟨c, jB⟩, mB, nB, vB, natB, codB, lckB, sgB⟩ := Cond.native_spec (w (.native tFill0) (by simp [excAtoms, throwableAtoms]) (by simp))
  have hc : s.vm.findClass tN = some c := findClass_of_methodNamed nB
  obtain ⟨k, hk, hname⟩ := Vm.findClass_spec hc
  have hini := Cond.initialized_spec hc hk (w (.initialized tN) (by simp [excAtoms, throwableAtoms]) (by simp))
  obtain ⟨_, k', _, _, hk', _, _, -, _, hface⟩ := Cond.superclass_spec hc (w (.superclass tN "java/lang/Object") (by simp [excAtoms, throwableAtoms]) (by simp))
  cases Option.some.inj (hk.symm.trans hk')
  obtain ⟨jA, mA, nA, vA, atA, stA, abA, -, -⟩ := Cond.ownMethod (x := tFill) hc hk (w (.instanceMethod tFill) (by simp [excAtoms, throwableAtoms]) (by simp))
  obtain ⟨mA', cA, vA', codA, bytA, locA, retA, lckA, -, sgA⟩ := Cond.codeSync_spec nA (w (.codeSync tFill LibCode.Throwable.Fill.code 1 (some (.object tN))) (by simp [excAtoms, throwableAtoms]) (by simp))
  cases Option.some.inj (vA.symm.trans vA')
  obtain ⟨jB', mB', nB', vB', atB, stB, abB, nmB, dsB⟩ := Cond.ownMethod (x := tFill0) hc hk (w (.instanceMethod tFill0) (by simp [excAtoms, throwableAtoms]) (by simp))
  obtain rfl : jB = jB' := by have := Option.some.inj (nB.symm.trans nB'); simpa using this
  cases Option.some.inj (vB.symm.trans vB')
  obtain ⟨jC, mC, nC, vC, atC, -, -, -, -⟩ := Cond.ownMethod (x := tInit0) hc hk (w (.instanceMethod tInit0) (by simp [excAtoms, throwableAtoms]) (by simp))
  obtain ⟨mC', cC, -, -, -, -, -, -, -, -⟩ := Cond.code_spec nC (w (.code tInit0 LibCode.Throwable.Init0.code 1 none) (by simp [excAtoms, throwableAtoms]) (by simp))
  obtain ⟨iO, mO, nO, vO, stO, abO⟩ := Cond.instanceMethod_spec (w (.instanceMethod oInit) (by simp [excAtoms, throwableAtoms]) (by simp))
  obtain ⟨mO', cO, vO', codO, bytO, -, -, lckO, -, sgO⟩ := Cond.code_spec nO (w (.code oInit ⟨#[0xb1]⟩ 1 none) (by simp [excAtoms, throwableAtoms]) (by simp))
  cases Option.some.inj (vO.symm.trans vO')
  obtain ⟨kO, hkO, hnO⟩ := Vm.findClass_spec (findClass_of_methodNamed nO)
  obtain ⟨nmO, dsO⟩ := name_of_methodNamed nO vO
  obtain ⟨p1, q1, cf, l1, r1, f1, e1⟩ := Cond.linkedMethod hc hk nO (w (.methodLink tN 1 oInit) (by simp [excAtoms, throwableAtoms]) (by simp)) pl hpl
  obtain ⟨p2, q2, cf', l2, r2, f2, e2⟩ := Cond.linkedMethod hc hk nA (w (.methodLink tN 27 tFill) (by simp [excAtoms, throwableAtoms]) (by simp)) pl hpl
  cases Option.some.inj (f1.symm.trans f2)
  obtain ⟨p3, q3, cf', l3, r3, f3, e3⟩ := Cond.linkedMethod hc hk nB (w (.methodLink tN 202 tFill0) (by simp [excAtoms, throwableAtoms]) (by simp)) pl hpl
  cases Option.some.inj (f1.symm.trans f3)
  obtain ⟨g7, i7, F7, a7, b7, c7, s7, n7, -, -, -⟩ := Cond.ownField (t := .object tN) hc hk (by decide +kernel) (w (.fieldLink tN 7 tN "cause" thD) (by simp [excAtoms, throwableAtoms]) (by simp)) (w (.lays ioN tN "cause" thD) (by simp [excAtoms, throwableAtoms]) (by simp)) pl hpl
  obtain ⟨g17, i17, F17, a17, b17, c17, s17, n17, m17, t17, w17⟩ := Cond.ownField (t := .array (.object "java/lang/StackTraceElement")) hc hk (by decide +kernel) (w (.fieldLink tN 17 tN "stackTrace" steD) (by simp [excAtoms, throwableAtoms]) (by simp)) (w (.lays ioN tN "stackTrace" steD) (by simp [excAtoms, throwableAtoms]) (by simp)) pl hpl
  obtain ⟨g24, i24, F24, a24, b24, c24, s24, n24, m24, t24, w24⟩ := Cond.ownField (t := .object "java/util/List") hc hk (by decide +kernel) (w (.fieldLink tN 24 tN "suppressedExceptions" listD) (by simp [excAtoms, throwableAtoms]) (by simp)) (w (.lays ioN tN "suppressedExceptions" listD) (by simp [excAtoms, throwableAtoms]) (fun q => absurd (Jvm.Cond.lays.inj q).1 (by decide))) pl hpl
  obtain ⟨g13, i13, F13, aS, cS, a13, b13, c13, s13, -, -, hsta, -, -, -, -, w13⟩ := Cond.ownStatic (t := .array (.object "java/lang/StackTraceElement")) hc hk (by decide +kernel) (w (.fieldLink tN 13 tN "UNASSIGNED_STACK" steD) (by simp [excAtoms, throwableAtoms]) (by simp)) (w (.laysStatic tN "UNASSIGNED_STACK" steD) (by simp [excAtoms, throwableAtoms]) (by simp)) pl hpl
  obtain ⟨g20, i20, F20, _, _, a20, b20, c20, s20, -, -, -, -, -, -, -, -⟩ := Cond.ownStatic (t := .object "java/util/List") hc hk (by decide +kernel) (w (.fieldLink tN 20 tN "SUPPRESSED_SENTINEL" listD) (by simp [excAtoms, throwableAtoms]) (by simp)) (w (.laysStatic tN "SUPPRESSED_SENTINEL" listD) (by simp [excAtoms, throwableAtoms]) (by simp)) pl hpl
  obtain ⟨_, _, _, _, iM, FM, _, _, _, sM, nM, _⟩ := Cond.lays_spec (w (.lays tN tN "detailMessage" msgD) (by simp [excAtoms, throwableAtoms]) (by simp))
  obtain ⟨cI, kI, -, -, -, -, hcI, hkI, -⟩ := Cond.lays_spec (w (.lays ioN tN "stackTrace" steD) (by simp [excAtoms, throwableAtoms]) (by simp))
  obtain ⟨-, u, hu, hun⟩ := Cond.laysAt hcI hkI w17 (w (.lays ioN tN "stackTrace" steD) (by simp [excAtoms, throwableAtoms]) (by simp))
  obtain ⟨-, v, hv, hvn⟩ := Cond.laysAt hcI hkI w24 (w (.lays ioN tN "suppressedExceptions" listD) (by simp [excAtoms, throwableAtoms]) (fun q => absurd (Jvm.Cond.lays.inj q).1 (by decide)))
  have hapart : F17.slot ≠ F24.slot := Cond.laysApart hu hv hun hvn (by rw [m17, m24]; decide)
  have parA : mA.sig.parameters = [] := by
    have : (parseMethodDescriptor tFill.desc).map (·.parameters) = some [] := by decide +kernel
    rw [sgA] at this; simpa using this
  have parB : mB.sig.parameters = [.int] := by
    have : (parseMethodDescriptor tFill0.desc).map (·.parameters) = some [.int] := by decide +kernel
    rw [sgB] at this; simpa using this
  have parO : mO.sig.parameters.length = 0 := by
    have : (parseMethodDescriptor oInit.desc).map (·.parameters) = some [] := by decide +kernel
    rw [sgO] at this
    have z : mO.sig.parameters = [] := by simpa using this
    rw [z]; rfl
  let T : ThrowableC := { cT := c, kT := k, cO := c, aS := aS, fillIdx := jA, fill0Idx := jB, initSIdx := jC, obj := iO, kObj := kO, methFill := mA, methFill0 := mB, methInitS := mC, methObj := mO, codeFill := cA, codeInitS := cC, codeObj := cO, fBack := F7, fDepth := F7, fStack := F17, fCause := F7, fSupp := F24, fMsg := FM, fUnassigned := F13, fSentinel := F20, cfT := cf, ci1 := p1, n1 := q1, ci27 := p2, n27 := q2, ci202 := p3, n202 := q3, ci7 := g7, i7 := i7, ci13 := g13, i13 := i13, ci17 := g17, i17 := i17, ci20 := g20, i20 := i20, ci24 := g24, i24 := i24 }
  refine ⟨T, ?_, hc, nA, nB, ⟨_, w17⟩, ⟨_, w13⟩, m17, t17⟩
  exact { owns := howns, noFinalization := hfin, cls := hk, name := hname, boot := Vm.findClass_boot hc hk, notInterface := hface, initialized := hini, statics := hsta, fillAt := atA, fillCode := codA, fillBytes := bytA, fillLocals := locA, fillLocks := lckA, fillStatic := stA, fillAbstract := abA, fillReturns := retA, fillParams := parA, fill0At := atB, fill0Name := nmB, fill0Desc := dsB, fill0Params := parB, fill0Static := stB, fill0Native := natB, fill0Code := codB, fill0Locks := lckB, fill0Abstract := abB, stackInstance := s17, stackNotFinal := n17, unassignedStatic := s13, objClass := hkO, objClassName := hnO, objMethod := vO, objName := nmO, objStatic := stO, objAbstract := abO, objFound := by rw [dsO]; exact lookupSpecial_of_named nO vO stO, objParams := parO, objCode := codO, objBytes := bytO, objLocks := lckO, causeInstance := s7, causeNotFinal := n7, sentinelStatic := s20, suppInstance := s24, suppNotFinal := n24, msgInstance := sM, msgNotFinal := nM, stackApartSupp := hapart, file := f1, mlink1 := l1, mright1 := r1, pool1 := e1, mlink27 := l2, mright27 := r2, pool27 := e2, mlink202 := l3, mright202 := r3, pool202 := e3, link7 := a7, right7 := b7, at7 := c7, link13 := a13, right13 := b13, at13 := c13, link17 := a17, right17 := b17, at17 := c17, link20 := a20, right20 := b20, at20 := c20, link24 := a24, right24 := b24, at24 := c24 }
theorem own_fld_set {Z : State} {h h' : Heap} {a : Addr} {C n d : String} {v : Value} {cell cell' : Cell} (F : Fld Z h a C n d v) (hc : h[a]? = some cell) (hc' : h'[a]? = some cell') (e1 : cell'.cls = cell.cls) (e2 : cell'.vm = cell.vm)
    (e3 : ∀ cf k i f, Z.fieldFound? C n d = some (cf, k, i, f) → cell'.slots[f.slot]? = cell.slots[f.slot]?) : Fld Z h' a C n d v := by
  obtain ⟨c0, cf, k, i, f, q1, q2, q3, q4, q5, q6, q7⟩ := F
  cases Option.some.inj (hc.symm.trans q1)
  exact ⟨cell', cf, k, i, f, hc', q2, q3, by rw [e2]; exact q4, by rw [e2]; exact q5, by rw [e1]; exact q6, by rw [e3 _ _ _ _ q2]; exact q7⟩
set_option maxHeartbeats 8000000 in
theorem own_fill {p : Program} {l : Launch} {e : Env} {R : Room} {s : State} {args : Array Value} {below : List Frame} {W n0 kk : Nat} {Z : State} {a0 : Array Value} {h0 h : Heap} (hx : p.tables.exec = Jvm.exec) (hl : l.stackTraces = true) (hZ : Z.Warmed39 s.vm) (hw : ∀ d ∈ tables_1, d.before a0 Z = true)
    (hsh : s.heap = h0) (Od0 : Old Z n0 h0) (Od : Old Z n0 h) (hTK : s.vm.MethodsKnown) (hBelow : s.vm.FramesKnown below) {uA a : Addr} (hU : Sta Z Z.heap tN "UNASSIGNED_STACK" steD (.ref uA)) (wi : (Jvm.Cond.instantiable ioN kk).before a0 Z = true) (hg : n0 ≤ a) (E : Exa Z h a ioN) (N : Unt h a)
    (FS : Fld Z h a tN "stackTrace" steD (.ref uA)) (FB : Fld Z h a tN "backtrace" obD .null) {cz dz : Value} (FC : Fld Z h a tN "cause" thD cz) (FM : Fld Z h a tN "detailMessage" msgD dz) (hf : 3 ≤ R.frames) (hlo : W + 42 ≤ R.locals) :
    Back l R p e below s args tFill 3 W (fun A as => as = #[.ref a] ∧ A.U.heap = h ∧ A.cells + 1 ≤ R.cells ∧ A.slots + 2752 ≤ R.slots)
      (fun A _ v B => ∃ L, (v = some (.ref a) ∧ Fr n0 L ∧ Keep h B.U.heap [a] ∧ Unt B.U.heap a ∧ Fld Z B.U.heap a tN "cause" thD cz ∧ Fld Z B.U.heap a tN "detailMessage" msgD dz) ∧ B.locs = A.locs ++ L ∧ B.cells = A.cells + 1 ∧ B.slots = A.slots + 2752) := by
  intro m meth c A g ig mk as X hgm hsize hdg hWd hmk hPre
  have htr : e.platform.stackTraces = true := by rw [X.admits.platform]; exact hl
  have howns : e.platform.frameOwnsMonitors = true := by rw [X.admits.platform]
  have hfin : e.platform.finalization = false := by rw [X.admits.platform]
  have hpl : e.platform.magicAccessors = ({} : Platform).magicAccessors := by rw [X.admits.platform]
  have hT0 : ThS Z s.heap := by rw [hsh]; exact ThS.ext Od0.2 ThS.start
  have hW : ∀ d ∈ excAtoms ioN, d ≠ badW → d.before args s = true := fun d hd hn => mvX hT0 hZ (List.all_eq_true.mp exc_ok d hd) (own_excW hw d hd hn)
  have w : ∀ d, d ∈ excAtoms ioN → d ≠ badW → d.holds args s none s [] = true := fun d h1 h2 => hW d h1 h2
  obtain ⟨T, L, hcT, nA, nB, ⟨iS, fS⟩, ⟨iU, fU⟩, nmS, tyS⟩ := own_links howns hfin hpl hW
  obtain ⟨cell, kz, h1, h2, h3, h4, h5⟩ := E
  obtain ⟨cell', u1, u2, u3⟩ := N
  cases Option.some.inj (h1.symm.trans u1)
  obtain ⟨_, kz', i1, i2, i3, -⟩ := Cond.instantiable_spec wi
  cases Option.some.inj (h2.symm.trans i1)
  cases Option.some.inj (h3.symm.trans i2)
  obtain ⟨kX, hk, hek⟩ := hZ.alike.2.2 _ _ h3
  have hfound : s.vm.findClass ioN = some cell.cls := by rw [hZ.alike.findClass]; exact h2
  have hord : kX.kind = .ordinary := by rw [hek]; exact i3
  have hsz : cell.slots.size = kX.instanceTypes.size := by rw [hek]; exact h5 i3
  have hsel0 : selectMethod e.platform s.vm cell.cls T.fill0 = .method T.fill0 := by
    obtain ⟨c2, r2, m2, q1, q2, q3, q4, -⟩ := Cond.selects_spec (w (.selects ioN tFill0 tFill0) (by simp [excAtoms]) (by simp))
    cases Option.some.inj (q1.symm.trans hfound)
    cases Option.some.inj (q2.symm.trans (State.methodFound?_of_named nB (by decide)))
    cases Option.some.inj (q3.symm.trans nB)
    rw [Launch.admits_selectMethod X.admits]; exact q4
  obtain ⟨cfU, iU', kU, fU', stU, cellS, z1, z2, z3, z4, z5, z6, z7⟩ := hU
  obtain ⟨kU', y1, y2⟩ := State.fieldFound?_setVm hZ.alike z1
  have eU := Option.some.inj (y1.symm.trans fU)
  simp only [Prod.mk.injEq] at eU
  obtain ⟨-, ekU, -, efU⟩ := eU
  have eaS : T.aS = stU := by
    have : T.kT.statics = some stU := by rw [← ekU, y2]; exact z4
    exact Option.some.inj (L.statics.symm.trans this)
  have hS : h[T.aS]? = some cellS := by rw [eaS]; exact Od.2.2 _ _ z5
  have hneS : T.aS ≠ a := fun q => by
    rw [q, h1] at hS
    cases hS
    rw [u2] at z6; cases z6
  have hknS : cellS.vm ≠ .unknown := fun q => by rw [q] at z6; cases z6
  have hvU : cellS.slots[T.fUnassigned.slot]? = some (.ref uA) := by rw [← efU]; exact z7
  have fldAt : ∀ {n d : String} {v : Value} {cf : ClassId} {k : Class} {i : Nat} {f : Field}, Fld Z h a tN n d v → s.fieldFound? tN n d = some (cf, k, i, f) → cell.slots[f.slot]? = some v := fun {n d v cf k i f} F hf => by
    obtain ⟨c0, cf0, k0, j0, f0, q1, q2, -, -, -, -, q7⟩ := F
    cases Option.some.inj (h1.symm.trans q1)
    obtain ⟨k4, q3, -⟩ := State.fieldFound?_setVm hZ.alike q2
    have := Option.some.inj (q3.symm.trans hf)
    simp only [Prod.mk.injEq] at this
    rw [← this.2.2.2]; exact q7
  have hvS := fldAt FS fS
  obtain ⟨g198, j198, fB, l198, r198, t198, sB, -, nmB, tyB, ffB⟩ := Cond.ownField (t := .object "java/lang/Object") hcT L.cls (by decide +kernel) (w (.fieldLink tN 198 tN "backtrace" obD) (by simp [excAtoms]) (by simp)) (w (.lays tN tN "backtrace" obD) (by simp [excAtoms]) (by simp)) e.platform hpl
  have hvB := fldAt FB ffB
  obtain ⟨_, _, cD, kD, jD, fD, -, -, ffD, sD, -, -, -, -⟩ := Cond.lays_spec (w (.lays ioN tN "depth" "I") (by simp [excAtoms]) (by simp))
  cases Option.some.inj ((Cond.lays_declared (w (.lays ioN tN "depth" "I") (by simp [excAtoms]) (by simp)) ffD).symm.trans hcT)
  obtain ⟨hkD, hatD⟩ := State.fieldFound?_spec ffD
  cases Option.some.inj (hkD.symm.trans L.cls)
  obtain ⟨nmD, tyD⟩ := State.fieldFound?_type ffD (t := .int) (by decide +kernel)
  have hfb := Cond.soleField_find hcT L.cls (w (.soleField tN "backtrace") (by simp [excAtoms]) (by simp)) t198 nmB sB
  have hfd := Cond.soleField_find hcT L.cls (w (.soleField tN "depth") (by simp [excAtoms]) (by simp)) hatD nmD sD
  obtain ⟨comp, cO, kO, -, -, hkO, hkindO, hO⟩ := Cond.arrayOver_spec (w (.arrayOver (.object "java/lang/Object")) (by simp [excAtoms]) (by simp))
  obtain ⟨atS, dS, hdS, hdnS⟩ := Cond.laysAt hfound hk fS (w (.lays ioN tN "stackTrace" steD) (by simp [excAtoms]) (by simp))
  obtain ⟨atB, dB, hdB, hdnB⟩ := Cond.laysAt hfound hk ffB (w (.lays ioN tN "backtrace" obD) (by simp [excAtoms]) (by simp))
  obtain ⟨atD, dD, hdD, hdnD⟩ := Cond.laysAt hfound hk ffD (w (.lays ioN tN "depth" "I") (by simp [excAtoms]) (by simp))
  have tk : ∀ {f : Field} {v : Value}, kX.instanceTypes[f.slot]? = some f.type → fits f.type v = true → Jvm.Takes s cell f v := fun {f v} q1 q2 => by
    obtain ⟨t1, t2⟩ := Takes.of_laid (v := v) hk hord q1 q2
    exact ⟨by rw [hsz]; simpa using t1, by rw [u2]; exact t2⟩
  obtain ⟨v, B, X', ⟨hv, vm', lines, hlines, hW', hBU, hBl, hBc, hBs⟩, st⟩ := Jvm.Free.Str.fillPays (l := l) (R := R) (len := 3) (W := W) (sargs := args) hx htr T L nA (u0 := ⟨.ref uA, rfl⟩) (by simp) (self := a) (cell := cell) (cellS := cellS) (fun _ => by rw [u2]; simp) (by rw [u2]; simp) (by rw [u3]) (by rw [u3]) hvS hsel0 hneS hknS hvU (tk atS (by rw [tyS]; rfl))
    ⟨{ ci198 := g198, i198 := j198, fBack := fB }, ⟨l198, r198, t198, sB⟩, hvB⟩ hTK hBelow hcT hO hkO hkindO hfb hfd (fun x => tk atB (by rw [tyB]; rfl)) (fun x => tk atD (by rw [tyD]; rfl)) (by omega) hlo m meth c A g ig mk as X hgm hsize hdg hWd hmk ⟨hPre.1, hPre.2.2.1, hPre.2.2.2, by rw [hPre.2.1]; exact h1, by rw [hPre.2.1]; exact hS⟩
  have hn : (traceHolder cO lines).slots.size ≤ 2752 := traceHolder_size_le cO hlines
  have hlt : a < h.size := (Array.getElem?_eq_some_iff.mp h1).1
  have hBh : B.U.heap = (h.push (traceHolder cO lines)).setIfInBounds a (Jvm.Free.Str.filledOn T.toThrowableT fB fD cell ⟨.ref uA, rfl⟩ A.U.heap.size lines.length.toInt32) := by
    rw [hBU, ← hPre.2.1]; rfl
  have hself : B.U.heap[a]? = some (Jvm.Free.Str.filledOn T.toThrowableT fB fD cell ⟨.ref uA, rfl⟩ A.U.heap.size lines.length.toInt32) := by
    rw [hBh]
    first
      | (simp [Nat.lt_succ_of_lt hlt]; done)
      | (simp [Array.getElem?_setIfInBounds]; omega)
  have hoth : ∀ (y : Addr) (cy : Cell), y ≠ a → h[y]? = some cy → B.U.heap[y]? = some cy := fun y cy ne q => by
    rw [hBh, Array.getElem?_setIfInBounds_ne (Ne.symm ne), Array.getElem?_push_lt (Array.getElem?_eq_some_iff.mp q).1]
    exact (Array.getElem?_eq_getElem _).symm.trans q
  have sl : ∀ {n d : String} {z : Value}, (Jvm.Cond.lays ioN tN n d) ∈ excAtoms ioN → (Jvm.Cond.lays ioN tN n d) ≠ badW → (∀ cf k i (f : Field), s.fieldFound? tN n d = some (cf, k, i, f) → f.name ≠ "backtrace" ∧ f.name ≠ "depth" ∧ f.name ≠ "stackTrace") → Fld Z h a tN n d z → Fld Z B.U.heap a tN n d z := fun {n d z} m1 m2 hne F => by
    refine own_fld_set F h1 hself rfl rfl fun cf k i f q => ?_
    obtain ⟨k4, q3, -⟩ := State.fieldFound?_setVm hZ.alike q
    obtain ⟨-, dF, hdF, hdnF⟩ := Cond.laysAt hfound hk q3 (w _ m1 m2)
    obtain ⟨x1, x2, x3⟩ := hne _ _ _ _ q3
    have y1 := Cond.laysApart hdF hdB hdnF hdnB (by rw [nmB]; exact x1)
    have y2 := Cond.laysApart hdF hdD hdnF hdnD (by rw [nmD]; exact x2)
    have y3 := Cond.laysApart hdF hdS hdnF hdnS (by rw [nmS]; exact x3)
    simp [Jvm.Free.Str.filledOn, Cell.setSlot, Array.getElem?_setIfInBounds, Ne.symm y1, Ne.symm y2, Ne.symm y3]
  refine ⟨v, ⟨B.U, B.locs, B.cells, A.slots + 2752⟩, X'.more (Nat.le_refl _) (by show B.slots ≤ A.slots + 2752; rw [hBs]; omega), ⟨_, ⟨hv, ?_, ⟨?_, fun y cy q ne => hoth y cy (by simpa using ne) q, fun y cy q => ?_⟩, ⟨_, hself, u2, u3⟩, ?_, ?_⟩, hBl, hBc, rfl⟩, st⟩
  · intro y hy
    simp only [List.mem_cons, List.not_mem_nil, or_false] at hy
    rcases hy with rfl | rfl | rfl <;> exact hg
  · show h.size ≤ B.U.heap.size
    rw [hBh]; simp
  · by_cases ne : y = a
    · subst ne
      cases Option.some.inj (h1.symm.trans q)
      exact ⟨_, hself, rfl, rfl, by simp [Jvm.Free.Str.filledOn, Cell.setSlot]⟩
    · exact ⟨cy, hoth y cy ne q, rfl, rfl, rfl⟩
  · refine sl (by simp [excAtoms]) (by simp) (fun cf k i f q => ?_) FC
    rw [(State.fieldFound?_type q (t := .object tN) (by decide +kernel)).1]; decide
  · refine sl (by simp [excAtoms]) (by simp) (fun cf k i f q => ?_) FM
    rw [(State.fieldFound?_type q (t := .object "java/lang/String") (by decide +kernel)).1]; decide
/-! plain arithmetic of the law: chars, the message's text, longs -/
theorem own_c255 {c : Int32} (h : ¬ c < 0 ∧ ¬ (255 : Int32) < c) : ∃ k : Fin 256, c = Int32.ofNat k.val := by
  obtain ⟨h1, h2⟩ := h
  rw [Int32.lt_iff_toInt_lt] at h1 h2
  have e0 : (0 : Int32).toInt = 0 := rfl
  have e2 : (255 : Int32).toInt = 255 := rfl
  refine ⟨⟨c.toInt.toNat, by omega⟩, Int32.toInt_inj.mp ?_⟩
  show c.toInt = (Int32.ofNat c.toInt.toNat).toInt
  rw [own_toInt (by omega)]; omega
theorem own_nar {p : Int32} (h : ¬ p < 0 ∧ ¬ (255 : Int32) < p) : nar .char p = p := by
  obtain ⟨k, rfl⟩ := own_c255 h
  exact (by decide +kernel : ∀ k : Fin 256, nar .char (Int32.ofNat k.val) = Int32.ofNat k.val) k
theorem own_l1 {p : Int32} (h : ¬ p < 0 ∧ ¬ (255 : Int32) < p) : nar .char ((p.toInt8.toInt32 &&& (255 : Int32)).toUInt32.toUInt16.toUInt32.toInt32) = p := by
  obtain ⟨k, rfl⟩ := own_c255 h
  exact (by decide +kernel : ∀ k : Fin 256, nar .char (((Int32.ofNat k.val).toInt8.toInt32 &&& (255 : Int32)).toUInt32.toUInt16.toUInt32.toInt32) = Int32.ofNat k.val) k
theorem own_get {cs : List Int32} {i : Nat} (h : i < cs.length) : ((cs.map (fun c => c.toInt8.toInt32)).map Value.int).getD i (.int 0) = .int ((cs.getD i 0).toInt8.toInt32) := by
  simp [List.getD_eq_getElem?_getD, h]
theorem own_mem_getD {cs : List Int32} {i : Nat} (h : i < cs.length) : cs.getD i 0 ∈ cs := by
  rw [List.getD_eq_getElem?_getD, List.getElem?_eq_getElem h]; exact List.getElem_mem h
theorem lt_of32 {a b : Nat} (ha : a < 2147483648) (hb : b < 2147483648) : Int32.ofNat a < Int32.ofNat b ↔ a < b := by
  rw [Int32.lt_iff_toInt_lt, own_toInt ha, own_toInt hb]; omega
/-! the message -/
def msgL (x : Int32) : List Int32 := (preL ++ decL x) ++ sufL
theorem dg_bnd (x : Int32) : 1 ≤ dgN x ∧ dgN x ≤ 10 := SBG.digits_pos _
theorem own_sgn (x : Int32) : GetChars.sgn x = if x < 0 then 1 else 0 := rfl
theorem sg_bnd (x : Int32) : GetChars.sgn x ≤ 1 := by rw [own_sgn]; split <;> omega
theorem sz_bnd (x : Int32) : 1 ≤ szN x ∧ szN x ≤ 11 := by
  have h1 := dg_bnd x; have h2 := sg_bnd x
  show 1 ≤ dgN x + GetChars.sgn x ∧ dgN x + GetChars.sgn x ≤ 11
  omega
theorem msg_len (x : Int32) : (msgL x).length = 18 + szN x := by
  show ((preL ++ decL x) ++ sufL).length = _
  rw [List.length_append, List.length_append, decL_len]
  have e1 : preL.length = 12 := rfl
  have e2 : sufL.length = 6 := rfl
  omega
theorem pd_len (x : Int32) : (preL ++ decL x).length = 12 + szN x := by rw [List.length_append, decL_len]; rfl
theorem msg_pre {x : Int32} {k : Nat} (h : k < 12) : (msgL x).getD k 0 = preL.getD k 0 := by
  show ((preL ++ decL x) ++ sufL).getD k 0 = _
  have e1 : preL.length = 12 := rfl
  rw [List.append_assoc, List.getD_eq_getElem?_getD, List.getD_eq_getElem?_getD, List.getElem?_append_left (by omega)]
theorem msg_dec {x : Int32} {k : Nat} (h : k < szN x) : (msgL x).getD (12 + k) 0 = (decL x).getD k 0 := by
  show ((preL ++ decL x) ++ sufL).getD (12 + k) 0 = _
  have e1 : preL.length = 12 := rfl
  rw [List.append_assoc, List.getD_eq_getElem?_getD, List.getD_eq_getElem?_getD, List.getElem?_append_right (by omega), e1, Nat.add_sub_cancel_left, List.getElem?_append_left (by rw [decL_len]; exact h)]
theorem msg_suf {x : Int32} {o k : Nat} (ho : o = 12 + GetChars.sgn x) : (msgL x).getD (o + dgN x + k) 0 = sufL.getD k 0 := by
  show ((preL ++ decL x) ++ sufL).getD (o + dgN x + k) 0 = _
  have e1 := pd_len x
  have e2 : szN x = dgN x + GetChars.sgn x := rfl
  rw [List.getD_eq_getElem?_getD, List.getD_eq_getElem?_getD, List.getElem?_append_right (by omega), e1, show o + dgN x + k - (12 + szN x) = k from by omega]
theorem msg_dig {x : Int32} {o : Nat} (ho : o = 12 + GetChars.sgn x) : ∀ t : Nat, t < dgN x → (msgL x).getD (o + t) 0 = Int32.ofNat (48 + absN x / 10 ^ (dgN x - 1 - t) % 10) := by
  intro t ht
  have e2 : szN x = dgN x + GetChars.sgn x := rfl
  rw [ho, Nat.add_assoc, msg_dec (by omega)]
  exact decL_dig ht
theorem own_s13 {x : Int32} (h : x < 0) : 13 = 12 + GetChars.sgn x := by rw [own_sgn, if_pos h]
theorem own_s12 {x : Int32} (h : ¬ x < 0) : 12 = 12 + GetChars.sgn x := by rw [own_sgn, if_neg h]
theorem msg_sg {x : Int32} (h : x < 0) : (msgL x).getD 12 0 = (45 : Int32) := by
  have := msg_dec (x := x) (k := 0) (by have := sz_bnd x; omega)
  rw [Nat.add_zero] at this
  rw [this]; exact decL_sign h
theorem own_add3 (a b c : Nat) : (Int32.ofNat a + Int32.ofNat b) + Int32.ofNat c = Int32.ofNat (a + b + c) := by rw [own_add32, own_add32]
theorem msg_l32 {x : Int32} {o : Nat} (ho : o = 12 + GetChars.sgn x) : Int32.ofNat (msgL x).length = (Int32.ofNat o + Int32.ofNat (dgN x)) + Int32.ofNat 6 := by
  have e2 : szN x = dgN x + GetChars.sgn x := rfl
  rw [own_add3, msg_len]; congr 1; omega
theorem msg_ol {x : Int32} {o k : Nat} (ho : o = 12 + GetChars.sgn x) (hk : k < 6) : o + dgN x + k < (msgL x).length := by
  have e2 : szN x = dgN x + GetChars.sgn x := rfl
  rw [msg_len]; omega
theorem msg_il {x : Int32} {k : Nat} (hk : k ≤ 18) : k < (msgL x).length := by
  have := sz_bnd x
  rw [msg_len]; omega
theorem msg_dl {x : Int32} {o : Nat} (ho : o = 12 + GetChars.sgn x) : o + dgN x ≤ (msgL x).length := by
  have e2 : szN x = dgN x + GetChars.sgn x := rfl
  rw [msg_len]; omega
/-! longs -/
theorem l_of {n : Nat} (h : n < 2 ^ 62) : (Int64.ofNat n).toInt = n := Int64.toInt_ofNat_of_lt (by omega)
theorem own_neg64 {x : Int32} : lcmpW x.toInt64 (0 : Int64) < (0 : Int32) ↔ x < 0 := by
  rw [lw_lt, Int64.lt_iff_toInt_lt, Int32.lt_iff_toInt_lt, Int32.toInt_toInt64]
  exact Iff.rfl
theorem own_ap {x : Int32} (h : ¬ x < 0) : x.toInt64 = Int64.ofNat (absN x) := by
  have h2 := abs_le x
  rw [Int32.lt_iff_toInt_lt] at h
  have e0 : (0 : Int32).toInt = 0 := rfl
  apply Int64.toInt_inj.mp
  rw [l_of (by omega), Int32.toInt_toInt64]
  show x.toInt = ((x.toInt.natAbs : Nat) : Int)
  omega
theorem own_an {x : Int32} (h : x < 0) : -x.toInt64 = Int64.ofNat (absN x) := by
  have h2 := abs_le x
  have h3 := x.le_toInt
  rw [Int32.lt_iff_toInt_lt] at h
  have e0 : (0 : Int32).toInt = 0 := rfl
  apply Int64.toInt_inj.mp
  rw [l_of (by omega), Int64.toInt_neg, Int32.toInt_toInt64, Int.bmod_eq_of_le (by omega) (by omega)]
  show -x.toInt = ((x.toInt.natAbs : Nat) : Int)
  omega
theorem own_lw {N M : Nat} (hN : N ≤ 2147483648) (hM : M ≤ 10000000000) : lcmpW (Int64.ofNat N) (Int64.ofNat M) < (0 : Int32) ↔ N < M := by
  rw [lw_lt, Int64.lt_iff_toInt_lt, l_of (by omega), l_of (by omega)]; omega
theorem own_digits (n : Nat) : SBG.digits n = if n < 10 then 1 else if n < 100 then 2 else if n < 1000 then 3 else if n < 10000 then 4 else if n < 100000 then 5 else if n < 1000000 then 6 else if n < 10000000 then 7 else if n < 100000000 then 8 else if n < 1000000000 then 9 else 10 := rfl
theorem l_div {a b : Nat} (ha : a < 2 ^ 62) (hb : 0 < b) (hb' : b < 2 ^ 62) : Int64.ofNat a / Int64.ofNat b = Int64.ofNat (a / b) := by
  have hne : Int64.ofNat b ≠ -1 := fun q => by
    have := congrArg Int64.toInt q
    rw [l_of hb', show (-1 : Int64).toInt = -1 from rfl] at this
    omega
  apply Int64.toInt_inj.mp
  rw [Int64.toInt_div_of_ne_right _ _ hne, l_of ha, l_of hb', l_of (Nat.lt_of_le_of_lt (Nat.div_le_self _ _) ha), Int.tdiv_eq_ediv_of_nonneg (by omega)]
  rfl
theorem l_rem {q : Nat} (h : q < 2 ^ 62) : Int64.ofNat q - (Int64.ofNat q / (10 : Int64)) * (10 : Int64) = Int64.ofNat (q % 10) := by
  have e1 : Int64.ofNat q / (10 : Int64) = Int64.ofNat (q / 10) := l_div h (by decide) (by decide)
  have e2 : Int64.ofNat q = Int64.ofNat (q % 10) + Int64.ofNat (q / 10) * (10 : Int64) := by
    rw [show (10 : Int64) = Int64.ofNat 10 from rfl, ← Int64.ofNat_mul, ← Int64.ofNat_add]; congr 1; omega
  rw [e1]
  conv => lhs; lhs; rw [e2]
  exact Int64.add_sub_cancel _ _
theorem own_band {a b : Bool} (h : a = true) (k : b = true) : (a && b) = true := by rw [h, k]; rfl
theorem own_bneg {p : Prop} [Decidable p] (h : ¬ p) : (! decide p) = true := by rw [decide_eq_false h]; rfl
theorem own_pw9 {e : Nat} (he : e ≤ 9) : 0 < 10 ^ e ∧ 10 ^ e < 2 ^ 62 := (by decide +kernel : ∀ e : Fin 10, 0 < 10 ^ e.val ∧ 10 ^ e.val < 2 ^ 62) ⟨e, Nat.lt_succ_of_le he⟩
theorem own_pwn {e : Nat} (he : e ≤ 9) : Int64.ofNat (10 ^ e) ≠ 0 := (by decide +kernel : ∀ e : Fin 10, Int64.ofNat (10 ^ e.val) ≠ 0) ⟨e, Nat.lt_succ_of_le he⟩
theorem own_dch {p : Int64} {N e : Nat} (hp : p = Int64.ofNat N) (hN : N ≤ 2147483648) (he : e ≤ 9) : ((48 : Int32) + ((p / (Int64.ofNat (10 ^ e))) - (((p / (Int64.ofNat (10 ^ e))) / (10 : Int64)) * (10 : Int64))).toInt32).toUInt32.toUInt16.toUInt32.toInt32 = Int32.ofNat (48 + N / 10 ^ e % 10) := by
  obtain ⟨h1, h2⟩ := own_pw9 he
  rw [hp, l_div (by omega) h1 h2, l_rem (Nat.lt_of_le_of_lt (Nat.div_le_self _ _) (by omega))]
  exact (by decide +kernel : ∀ r : Fin 10, ((48 : Int32) + (Int64.ofNat r.val).toInt32).toUInt32.toUInt16.toUInt32.toInt32 = Int32.ofNat (48 + r.val)) ⟨N / 10 ^ e % 10, Nat.mod_lt _ (by decide)⟩
theorem own_dsub {p q : Int32} {D i : Nat} (hp : p = Int32.ofNat D) (hq : q = Int32.ofNat i) (h : i < D) (hD : D ≤ 10) : ((p - (1 : Int32)) - q) = Int32.ofNat (D - 1 - i) := by
  subst hp hq
  exact (by decide +kernel : ∀ (D : Fin 11) (i : Fin 11), i.val < D.val → ((Int32.ofNat D.val - (1 : Int32)) - Int32.ofNat i.val) = Int32.ofNat (D.val - 1 - i.val)) ⟨D, by omega⟩ ⟨i, by omega⟩ h
theorem own_add2 {p q : Int32} {a b : Nat} (hp : p = Int32.ofNat a) (hq : q = Int32.ofNat b) : (p + q) = Int32.ofNat (a + b) := by rw [hp, hq, own_add32]
/-! Throwable.getCause on an exception that is its own cause -/
theorem own_gcause {p : Program} {l : Launch} {e : Env} {R : Room} {s : State} {args : Array Value} {below : List Frame} {W n0 : Nat} {Z : State} {a0 : Array Value} {h : Heap} {a : Addr} (hZ : Z.Warmed39 s.vm) (wc : (Jvm.Cond.codeSync Jvm.RoadKit.gcN Jvm.RoadKit.gcB 1 (some (.object tN))).before a0 Z = true) (wi : (Jvm.Cond.instanceMethod Jvm.RoadKit.gcN).before a0 Z = true) (wz : (Jvm.Cond.initialized tN).before a0 Z = true) (wf : (Jvm.Cond.fieldLink tN 7 tN "cause" thD).before a0 Z = true)
    (N : Unt h a) (F : Fld Z h a tN "cause" thD (.ref a)) (hf : 1 ≤ R.frames) (hl : W + 12 ≤ R.locals) :
    Back l R p e below s args Jvm.RoadKit.gcN 3 W (fun A as => as = #[.ref a] ∧ A.U.heap = h ∧ A.cells + 0 ≤ R.cells ∧ A.slots + 0 ≤ R.slots)
      (fun A _ v B => ∃ L, (v = some .null ∧ Fr n0 L ∧ B.U.heap = h) ∧ B.locs = A.locs ++ L ∧ B.cells = A.cells + 0 ∧ B.slots = A.slots + 0) :=
  Back.mono (gcBackPure (rm := ({ frames := 0, cells := 0, slots := 0, locals := 0 } : Room)) hZ wc wi wz wf N F rfl hf hl) (fun _ _ hp => hp)
    (fun A as v B _ hq => ⟨[], ⟨by rw [hq.1]; simp [gcV], Fr.nil _, hq.2.1⟩, by rw [hq.2.2.1, List.append_nil], hq.2.2.2.1, hq.2.2.2.2⟩)

theorem pd_0 : parseMethodDescriptor "()Ljava/lang/Throwable;" = some ⟨[], some (.object "java/lang/Throwable")⟩ := by decide +kernel
theorem d34_0 : decode jdk_78_method_2_code 0 = .ok (.aload_n 0, 1) := by decide +kernel
theorem d34_1 : decode jdk_78_method_2_code 1 = .ok (.invokespecial 1, 3) := by decide +kernel
theorem d34_4 : decode jdk_78_method_2_code 4 = .ok (.aload_n 0, 1) := by decide +kernel
theorem d34_5 : decode jdk_78_method_2_code 5 = .ok (.aload_n 0, 1) := by decide +kernel
theorem d34_6 : decode jdk_78_method_2_code 6 = .ok (.putfield 7, 3) := by decide +kernel
theorem d34_9 : decode jdk_78_method_2_code 9 = .ok (.aload_n 0, 1) := by decide +kernel
theorem d34_10 : decode jdk_78_method_2_code 10 = .ok (.getstatic 13, 3) := by decide +kernel
theorem d34_13 : decode jdk_78_method_2_code 13 = .ok (.putfield 17, 3) := by decide +kernel
theorem d34_16 : decode jdk_78_method_2_code 16 = .ok (.aload_n 0, 1) := by decide +kernel
theorem d34_17 : decode jdk_78_method_2_code 17 = .ok (.getstatic 20, 3) := by decide +kernel
theorem d34_20 : decode jdk_78_method_2_code 20 = .ok (.putfield 24, 3) := by decide +kernel
theorem d34_23 : decode jdk_78_method_2_code 23 = .ok (.aload_n 0, 1) := by decide +kernel
theorem d34_24 : decode jdk_78_method_2_code 24 = .ok (.invokevirtual 27, 3) := by decide +kernel
theorem d34_27 : decode jdk_78_method_2_code 27 = .ok (.pop, 1) := by decide +kernel
theorem d34_28 : decode jdk_78_method_2_code 28 = .ok (.aload_n 0, 1) := by decide +kernel
theorem d34_29 : decode jdk_78_method_2_code 29 = .ok (.aload_n 1, 1) := by decide +kernel
theorem d34_30 : decode jdk_78_method_2_code 30 = .ok (.putfield 31, 3) := by decide +kernel
theorem d34_33 : decode jdk_78_method_2_code 33 = .ok (.return_, 1) := by decide +kernel
theorem pn_java_lang_Throwable : plainName "java/lang/Throwable" = true := by first | (simp [plainName, overriddenIn]; done) | decide +kernel
theorem ef_thrInit (m : MethodId) (x0 : Addr) (x1 : Addr) : entryFrame m #[(.ref x0), (.ref x1)] 2 = mkF m 0 #[.val (.ref x0), .val (.ref x1)] [] := by first | (simp [entryFrame, mkF, argsToLocals, Value.category]; done) | rfl
def Q_thrInit (Z : State) (a1 : Addr) (a2 : Addr) (uA : Addr) (sA : Addr) (h0 : Heap) (n0 : Nat) (v : Option Value) (h : Heap) (L : List Loc) : Prop := v = none ∧ Fr n0 L ∧ (Keep h0 h [a1]) ∧ (Unt h a1) ∧ (Fld Z h a1 "java/lang/Throwable" "detailMessage" "Ljava/lang/String;" (.ref a2)) ∧ (Fld Z h a1 "java/lang/Throwable" "cause" "Ljava/lang/Throwable;" (.ref a1))
set_option maxRecDepth 65536 in
set_option maxHeartbeats 40000000 in
theorem thrInit (l : Launch) (Z : State) (a0 : Array Value) (hw : ∀ d ∈ tables_1, d.before a0 Z = true) (ws : List Jvm.Cond) (a1 : Addr) (a2 : Addr) (uA : Addr) (sA : Addr) (h0 : Heap) (n0 : Nat) (Z0 : n0 ≤ h0.size) (g_a1 : n0 ≤ a1) (E_a1 : Exa Z h0 a1 "java/io/IOException") (U_a1 : Unt h0 a1) (F_cause : Fld Z h0 a1 "java/lang/Throwable" "cause" "Ljava/lang/Throwable;" .null) (F_stackTrace : Fld Z h0 a1 "java/lang/Throwable" "stackTrace" "[Ljava/lang/StackTraceElement;" .null) (F_suppressedExceptions : Fld Z h0 a1 "java/lang/Throwable" "suppressedExceptions" "Ljava/util/List;" .null) (F_backtrace : Fld Z h0 a1 "java/lang/Throwable" "backtrace" "Ljava/lang/Object;" .null) (F_detailMessage : Fld Z h0 a1 "java/lang/Throwable" "detailMessage" "Ljava/lang/String;" .null) (Od : Old Z n0 h0) (O6 : Sta Z Z.heap "java/lang/Throwable" "UNASSIGNED_STACK" "[Ljava/lang/StackTraceElement;" (.ref uA)) (O7 : Sta Z Z.heap "java/lang/Throwable" "SUPPRESSED_SENTINEL" "Ljava/util/List;" (.ref sA)) (hlt : l.stackTraces = true) :
    MetFree l (⟨"java/lang/Throwable", "<init>", "(Ljava/lang/String;)V"⟩ : MethodName) (head1 (Jvm.Cond.code (⟨"java/lang/Throwable", "<init>", "(Ljava/lang/String;)V"⟩ : MethodName) jdk_78_method_2_code 2 none :: ws) ({ frames := 3, cells := 1, slots := 2752, locals := 42 } : Room)) (fun a U => a = #[(.ref a1), (.ref a2)] ∧ Z.Warmed39 U.vm ∧ U.heap = h0) (fun _ _ bl s _ => s.vm.MethodsKnown ∧ s.vm.FramesKnown bl) (fun _ U o U' => ∃ v L, o = .returned v ∧ Q_thrInit Z a1 a2 uA sA h0 n0 v U'.heap L ∧ FrameEnd U o U' L ({ frames := 3, cells := 1, slots := 2752, locals := 42 } : Room).cells ({ frames := 3, cells := 1, slots := 2752, locals := 42 } : Room).slots) := by
  refine MetFree.of_bodySF (plainFor_of_name pn_java_lang_Throwable) hisR ?_
  intro p e s m args below meth c s₁ Bd hml0 hP hK
  obtain ⟨rfl, hZ, hh⟩ := hP
  have hx := Bd.exec
  have hby := Bd.bytes
  have hml : c.maxLocals = 2 := hml0
  have hown : s.vm.findClass "java/lang/Throwable" = some m.cls := findClass_of_methodNamed Bd.named
  have hnm := (name_of_methodNamed Bd.named Bd.method).1
  have hret : meth.sig.returnType = none := Bd.returns
  have hlk : meth.locks = false := BodyLoose.notSynchronized Bd
  have X0 : Stand p l e ({ frames := 3, cells := 1, slots := 2752, locals := 42 } : Room) s m #[(.ref a1), (.ref a2)] below meth c s₁ [] 0 0 := Stand.of_body Bd
  have e0 : s₁.heap = h0 := by rw [← hh, Bd.state]; rfl
  have N0 := Fr.nil n0
  have hZi : Z.Warmed39 s.vm := hZ
  have K0 : Keep h0 h0 [a1] := Keep.refl h0 _
  show Gl p.tables e below s (Q_thrInit Z a1 a2 uA sA h0 n0) 1 2752 _
  refine Gl.pre (B := s₁.setTop (mkF m 0 #[.val (.ref a1), .val (.ref a2)] [])) (fun _ k => castTop (ef_thrInit m a1 a2) k) ?_
  have Od0 := Od
  refine Gl.pre (B := s₁.setTop (mkF m 1 #[.val (.ref a1), .val (.ref a2)] [(.ref a1)])) (fun _ k => XS.aloadN X0.here hx rfl (hb hby d34_0) rfl rfl k) ?_
  obtain ⟨T1, X1, e1, st1⟩ := initO X0 hx hZ hown (wq hw 183 rfl) (wq hw 20 rfl) (wq hw 21 rfl) e0 (g := (mkF m 1 #[.val (.ref a1), .val (.ref a2)] [(.ref a1)])) rfl (by rw [hml]; rfl) rfl (hb hby d34_1) (by decide) (W := 0) (by show 2 * 0 + _ ≤ _; exact Nat.le_of_eq rfl) (by decide)
  refine Gl.pre (B := T1.setTop (mkF m 6 #[.val (.ref a1), .val (.ref a2)] [(.ref a1), (.ref a1)])) (fun _ k => st1 _ (XS.aloadN X1.here hx rfl (hb hby d34_4) rfl rfl (XS.aloadN X1.here hx rfl (hb hby d34_5) rfl rfl k))) ?_
  obtain ⟨T2, h2, X2, e2, W2, st2⟩ := putF X1 hx hZ hown (host := "") (Or.inl (wq hw 184 rfl)) Via.refl e1 F_cause E_a1 (Or.inl (wq hw 185 rfl)) (wq hw 5 rfl) (ty := (.object "java/lang/Throwable")) (by decide) rfl rfl (g := (mkF m 6 #[.val (.ref a1), .val (.ref a2)] [(.ref a1), (.ref a1)])) rfl rfl (hb hby d34_6)
  have N2 := Fr.snoc X2 N0 g_a1
  have F_cause_n := F_cause.same W2
  have E_a1 := E_a1.wr W2
  have U_a1 := Unt.wr W2 U_a1
  have Od := Od.wr W2 g_a1
  have F_stackTrace := F_stackTrace.other W2 (Or.inr (slot_ne (Or.inl (wq hw 188 rfl)) (Or.inl (wq hw 185 rfl)) (by decide) (t := (.array (.object "java/lang/StackTraceElement"))) (t' := (.object "java/lang/Throwable")) (by decide) (by decide)))
  have F_suppressedExceptions := F_suppressedExceptions.other W2 (Or.inr (slot_ne (Or.inl (wq hw 191 rfl)) (Or.inl (wq hw 185 rfl)) (by decide) (t := (.object "java/util/List")) (t' := (.object "java/lang/Throwable")) (by decide) (by decide)))
  have F_backtrace := F_backtrace.other W2 (Or.inr (slot_ne (Or.inl (wq hw 216 rfl)) (Or.inl (wq hw 185 rfl)) (by decide) (t := (.object "java/lang/Object")) (t' := (.object "java/lang/Throwable")) (by decide) (by decide)))
  have F_detailMessage := F_detailMessage.other W2 (Or.inr (slot_ne (Or.inl (wq hw 215 rfl)) (Or.inl (wq hw 185 rfl)) (by decide) (t := (.object "java/lang/String")) (t' := (.object "java/lang/Throwable")) (by decide) (by decide)))
  have K0 := K0.wr W2 (Or.inl (List.mem_of_getElem? (i := 0) rfl))
  have F_cause := F_cause_n
  refine Gl.pre (B := T2.setTop (mkF m 10 #[.val (.ref a1), .val (.ref a2)] [(.ref a1)])) (fun _ k => st2 _ (XS.aloadN X2.here hx rfl (hb hby d34_9) rfl rfl k)) ?_
  obtain ⟨T3, X3, e3, st3⟩ := getS2 X2 hx hZ hown (host := "") (Or.inl (wq hw 186 rfl)) Via.refl e2 (O6.ext Od.2) (g := (mkF m 10 #[.val (.ref a1), .val (.ref a2)] [(.ref a1)])) rfl (hb hby d34_10)
  refine Gl.pre (B := T3.setTop (mkF m 13 #[.val (.ref a1), .val (.ref a2)] [(.ref uA), (.ref a1)])) (fun _ k => st3 _ k) ?_
  obtain ⟨T4, h4, X4, e4, W4, st4⟩ := putF X3 hx hZ hown (host := "") (Or.inl (wq hw 187 rfl)) Via.refl e3 F_stackTrace E_a1 (Or.inl (wq hw 188 rfl)) (wq hw 5 rfl) (ty := (.array (.object "java/lang/StackTraceElement"))) (by decide) rfl rfl (g := (mkF m 13 #[.val (.ref a1), .val (.ref a2)] [(.ref uA), (.ref a1)])) rfl rfl (hb hby d34_13)
  have N4 := Fr.snoc X4 N2 g_a1
  have F_stackTrace_n := F_stackTrace.same W4
  have E_a1 := E_a1.wr W4
  have U_a1 := Unt.wr W4 U_a1
  have Od := Od.wr W4 g_a1
  have F_suppressedExceptions := F_suppressedExceptions.other W4 (Or.inr (slot_ne (Or.inl (wq hw 191 rfl)) (Or.inl (wq hw 188 rfl)) (by decide) (t := (.object "java/util/List")) (t' := (.array (.object "java/lang/StackTraceElement"))) (by decide) (by decide)))
  have F_backtrace := F_backtrace.other W4 (Or.inr (slot_ne (Or.inl (wq hw 216 rfl)) (Or.inl (wq hw 188 rfl)) (by decide) (t := (.object "java/lang/Object")) (t' := (.array (.object "java/lang/StackTraceElement"))) (by decide) (by decide)))
  have F_detailMessage := F_detailMessage.other W4 (Or.inr (slot_ne (Or.inl (wq hw 215 rfl)) (Or.inl (wq hw 188 rfl)) (by decide) (t := (.object "java/lang/String")) (t' := (.array (.object "java/lang/StackTraceElement"))) (by decide) (by decide)))
  have K0 := K0.wr W4 (Or.inl (List.mem_of_getElem? (i := 0) rfl))
  have F_cause := F_cause.other W4 (Or.inr (slot_ne (Or.inl (wq hw 185 rfl)) (Or.inl (wq hw 188 rfl)) (by decide) (t := (.object "java/lang/Throwable")) (t' := (.array (.object "java/lang/StackTraceElement"))) (by decide) (by decide)))
  have F_stackTrace := F_stackTrace_n
  refine Gl.pre (B := T4.setTop (mkF m 17 #[.val (.ref a1), .val (.ref a2)] [(.ref a1)])) (fun _ k => st4 _ (XS.aloadN X4.here hx rfl (hb hby d34_16) rfl rfl k)) ?_
  obtain ⟨T5, X5, e5, st5⟩ := getS2 X4 hx hZ hown (host := "") (Or.inl (wq hw 189 rfl)) Via.refl e4 (O7.ext Od.2) (g := (mkF m 17 #[.val (.ref a1), .val (.ref a2)] [(.ref a1)])) rfl (hb hby d34_17)
  refine Gl.pre (B := T5.setTop (mkF m 20 #[.val (.ref a1), .val (.ref a2)] [(.ref sA), (.ref a1)])) (fun _ k => st5 _ k) ?_
  obtain ⟨T6, h6, X6, e6, W6, st6⟩ := putF X5 hx hZ hown (host := "") (Or.inl (wq hw 190 rfl)) Via.refl e5 F_suppressedExceptions E_a1 (Or.inl (wq hw 191 rfl)) (wq hw 5 rfl) (ty := (.object "java/util/List")) (by decide) rfl rfl (g := (mkF m 20 #[.val (.ref a1), .val (.ref a2)] [(.ref sA), (.ref a1)])) rfl rfl (hb hby d34_20)
  have N6 := Fr.snoc X6 N4 g_a1
  have F_suppressedExceptions_n := F_suppressedExceptions.same W6
  have E_a1 := E_a1.wr W6
  have U_a1 := Unt.wr W6 U_a1
  have Od := Od.wr W6 g_a1
  have F_backtrace := F_backtrace.other W6 (Or.inr (slot_ne (Or.inl (wq hw 216 rfl)) (Or.inl (wq hw 191 rfl)) (by decide) (t := (.object "java/lang/Object")) (t' := (.object "java/util/List")) (by decide) (by decide)))
  have F_detailMessage := F_detailMessage.other W6 (Or.inr (slot_ne (Or.inl (wq hw 215 rfl)) (Or.inl (wq hw 191 rfl)) (by decide) (t := (.object "java/lang/String")) (t' := (.object "java/util/List")) (by decide) (by decide)))
  have K0 := K0.wr W6 (Or.inl (List.mem_of_getElem? (i := 0) rfl))
  have F_cause := F_cause.other W6 (Or.inr (slot_ne (Or.inl (wq hw 185 rfl)) (Or.inl (wq hw 191 rfl)) (by decide) (t := (.object "java/lang/Throwable")) (t' := (.object "java/util/List")) (by decide) (by decide)))
  have F_stackTrace := F_stackTrace.other W6 (Or.inr (slot_ne (Or.inl (wq hw 188 rfl)) (Or.inl (wq hw 191 rfl)) (by decide) (t := (.array (.object "java/lang/StackTraceElement"))) (t' := (.object "java/util/List")) (by decide) (by decide)))
  have F_suppressedExceptions := F_suppressedExceptions_n
  refine Gl.pre (B := T6.setTop (mkF m 24 #[.val (.ref a1), .val (.ref a2)] [(.ref a1)])) (fun _ k => st6 _ (XS.aloadN X6.here hx rfl (hb hby d34_23) rfl rfl k)) ?_
  obtain ⟨cq7, kq7, q7a, q7b, q7c⟩ := isOf hZ e6 E_a1
  obtain ⟨rv7, _, ⟨T7, L7, k7, n7⟩, -, X7, ⟨Lc7, hQ7, l7, y7, z7⟩, st7⟩ := X6.virtualBack hx (y := (⟨"java/lang/Throwable", "fillInStackTrace", "()Ljava/lang/Throwable;"⟩ : MethodName)) (z := (⟨"java/lang/Throwable", "fillInStackTrace", "()Ljava/lang/Throwable;"⟩ : MethodName)) hown (mvT hZ (wq hw 192 rfl)) (mvT hZ (wq hw 193 rfl)) (notFace_of_selects (args := #[]) (mvT hZ (wq hw 195 rfl))) (mvT hZ (wq hw 195 rfl)) (mvT hZ (wq hw 194 rfl)) (by decide) (own_fill (W := 0) (n0 := n0) hx hlt hZ hw hh Od0 Od hK.1 hK.2 O6 (wq hw 5 rfl) g_a1 E_a1 U_a1 F_stackTrace F_backtrace F_cause F_detailMessage (by decide) (by decide)) q7a q7c (g := (mkF m 24 #[.val (.ref a1), .val (.ref a2)] [(.ref a1)])) rfl (by rw [hml]; rfl) (Steps.refl _) (argsL := []) (rest := []) (lenOf pd_0 rfl) rfl (by show 2 * 0 + _ ≤ _; exact Nat.le_of_eq rfl) (hb hby d34_24) (fun _ _ => ⟨rfl, e6, (by decide : 0 + 1 ≤ _), (by decide : 0 + 2752 ≤ _)⟩)
  dsimp only [Pt.U, Pt.locs, Pt.cells, Pt.slots] at X7 l7 y7 z7 st7 hQ7
  have X7 := own_reb X7 l7 y7 z7
  obtain ⟨rfl, N7q, K7, Un7, Fz7, Fm7⟩ := hQ7
  have N7 := Fr.app N6 N7q
  have E_a1 := E_a1.keep K7
  have K0 := K0.trans K7 (allS (Or.inl (List.mem_of_getElem? (i := 0) rfl)) all0)
  refine Gl.pre (B := T7.setTop (mkF m 30 #[.val (.ref a1), .val (.ref a2)] [(.ref a2), (.ref a1)])) (fun _ k => st7.trans (XS.pop X7.here hx rfl (hb hby d34_27) rfl rfl (XS.aloadN X7.here hx rfl (hb hby d34_28) rfl rfl (XS.aloadN X7.here hx rfl (hb hby d34_29) rfl rfl k)))) ?_
  obtain ⟨T8, h8, X8, e8, W8, st8⟩ := putF X7 hx hZ hown (host := "") (Or.inl (wq hw 219 rfl)) Via.refl rfl Fm7 E_a1 (Or.inl (wq hw 215 rfl)) (wq hw 5 rfl) (ty := (.object "java/lang/String")) (by decide) rfl rfl (g := (mkF m 30 #[.val (.ref a1), .val (.ref a2)] [(.ref a2), (.ref a1)])) rfl rfl (hb hby d34_30)
  have N8 := Fr.snoc X8 N7 g_a1
  have Fm7_n := Fm7.same W8
  have K0 := K0.wr W8 (Or.inl (List.mem_of_getElem? (i := 0) rfl))
  have Un7 := Unt.wr W8 Un7
  have Fz7 := Fz7.other W8 (Or.inr (slot_ne (Or.inl (wq hw 185 rfl)) (Or.inl (wq hw 215 rfl)) (by decide) (t := (.object "java/lang/Throwable")) (t' := (.object "java/lang/String")) (by decide) (by decide)))
  have Fm7 := Fm7_n
  refine Gl.pre (B := T8.setTop (mkF m 33 #[.val (.ref a1), .val (.ref a2)] [])) (fun _ k => st8 _ k) ?_
  refine Gl.out X8 (v := none) (fun _ => rfl) hlk (fun fs hr => X8.returnOut hx hret (hb hby d34_33) hr) ?_ (by decide) (by decide)
  show Q_thrInit Z _ _ _ _ h0 n0 _ T8.heap _
  rw [e8]
  exact ⟨rfl, N8, K0, Un7, Fm7, Fz7⟩
theorem pd_1 : parseMethodDescriptor "(Ljava/lang/String;)V" = some ⟨[(.object "java/lang/String")], none⟩ := by decide +kernel
theorem d33_0 : decode jdk_59_method_2_code 0 = .ok (.aload_n 0, 1) := by decide +kernel
theorem d33_1 : decode jdk_59_method_2_code 1 = .ok (.aload_n 1, 1) := by decide +kernel
theorem d33_2 : decode jdk_59_method_2_code 2 = .ok (.invokespecial 7, 3) := by decide +kernel
theorem d33_5 : decode jdk_59_method_2_code 5 = .ok (.return_, 1) := by decide +kernel
theorem pn_java_lang_Exception : plainName "java/lang/Exception" = true := by first | (simp [plainName, overriddenIn]; done) | decide +kernel
theorem ef_excInit (m : MethodId) (x0 : Addr) (x1 : Addr) : entryFrame m #[(.ref x0), (.ref x1)] 2 = mkF m 0 #[.val (.ref x0), .val (.ref x1)] [] := by first | (simp [entryFrame, mkF, argsToLocals, Value.category]; done) | rfl
def Q_excInit (Z : State) (a1 : Addr) (a2 : Addr) (uA : Addr) (sA : Addr) (h0 : Heap) (n0 : Nat) (v : Option Value) (h : Heap) (L : List Loc) : Prop := v = none ∧ Fr n0 L ∧ (Keep h0 h [a1]) ∧ (Unt h a1) ∧ (Fld Z h a1 "java/lang/Throwable" "detailMessage" "Ljava/lang/String;" (.ref a2)) ∧ (Fld Z h a1 "java/lang/Throwable" "cause" "Ljava/lang/Throwable;" (.ref a1))
set_option maxRecDepth 65536 in
set_option maxHeartbeats 40000000 in
theorem excInit (l : Launch) (Z : State) (a0 : Array Value) (hw : ∀ d ∈ tables_1, d.before a0 Z = true) (ws : List Jvm.Cond) (a1 : Addr) (a2 : Addr) (uA : Addr) (sA : Addr) (h0 : Heap) (n0 : Nat) (Z0 : n0 ≤ h0.size) (g_a1 : n0 ≤ a1) (E_a1 : Exa Z h0 a1 "java/io/IOException") (U_a1 : Unt h0 a1) (F_cause : Fld Z h0 a1 "java/lang/Throwable" "cause" "Ljava/lang/Throwable;" .null) (F_stackTrace : Fld Z h0 a1 "java/lang/Throwable" "stackTrace" "[Ljava/lang/StackTraceElement;" .null) (F_suppressedExceptions : Fld Z h0 a1 "java/lang/Throwable" "suppressedExceptions" "Ljava/util/List;" .null) (F_backtrace : Fld Z h0 a1 "java/lang/Throwable" "backtrace" "Ljava/lang/Object;" .null) (F_detailMessage : Fld Z h0 a1 "java/lang/Throwable" "detailMessage" "Ljava/lang/String;" .null) (Od : Old Z n0 h0) (O6 : Sta Z Z.heap "java/lang/Throwable" "UNASSIGNED_STACK" "[Ljava/lang/StackTraceElement;" (.ref uA)) (O7 : Sta Z Z.heap "java/lang/Throwable" "SUPPRESSED_SENTINEL" "Ljava/util/List;" (.ref sA)) (hlt : l.stackTraces = true) :
    MetFree l (⟨"java/lang/Exception", "<init>", "(Ljava/lang/String;)V"⟩ : MethodName) (head1 (Jvm.Cond.code (⟨"java/lang/Exception", "<init>", "(Ljava/lang/String;)V"⟩ : MethodName) jdk_59_method_2_code 2 none :: ws) ({ frames := 4, cells := 1, slots := 2752, locals := 55 } : Room)) (fun a U => a = #[(.ref a1), (.ref a2)] ∧ Z.Warmed39 U.vm ∧ U.heap = h0) (fun _ _ bl s _ => s.vm.MethodsKnown ∧ s.vm.FramesKnown bl) (fun _ U o U' => ∃ v L, o = .returned v ∧ Q_excInit Z a1 a2 uA sA h0 n0 v U'.heap L ∧ FrameEnd U o U' L ({ frames := 4, cells := 1, slots := 2752, locals := 55 } : Room).cells ({ frames := 4, cells := 1, slots := 2752, locals := 55 } : Room).slots) := by
  refine MetFree.of_bodySF (plainFor_of_name pn_java_lang_Exception) hisR ?_
  intro p e s m args below meth c s₁ Bd hml0 hP hK
  obtain ⟨rfl, hZ, hh⟩ := hP
  have hx := Bd.exec
  have hby := Bd.bytes
  have hml : c.maxLocals = 2 := hml0
  have hown : s.vm.findClass "java/lang/Exception" = some m.cls := findClass_of_methodNamed Bd.named
  have hnm := (name_of_methodNamed Bd.named Bd.method).1
  have hret : meth.sig.returnType = none := Bd.returns
  have hlk : meth.locks = false := BodyLoose.notSynchronized Bd
  have X0 : Stand p l e ({ frames := 4, cells := 1, slots := 2752, locals := 55 } : Room) s m #[(.ref a1), (.ref a2)] below meth c s₁ [] 0 0 := Stand.of_body Bd
  have e0 : s₁.heap = h0 := by rw [← hh, Bd.state]; rfl
  have N0 := Fr.nil n0
  have hZi : Z.Warmed39 s.vm := hZ
  have K0 : Keep h0 h0 [a1] := Keep.refl h0 _
  show Gl p.tables e below s (Q_excInit Z a1 a2 uA sA h0 n0) 1 2752 _
  refine Gl.pre (B := s₁.setTop (mkF m 0 #[.val (.ref a1), .val (.ref a2)] [])) (fun _ k => castTop (ef_excInit m a1 a2) k) ?_
  refine Gl.pre (B := s₁.setTop (mkF m 2 #[.val (.ref a1), .val (.ref a2)] [(.ref a2), (.ref a1)])) (fun _ k => XS.aloadN X0.here hx rfl (hb hby d33_0) rfl rfl (XS.aloadN X0.here hx rfl (hb hby d33_1) rfl rfl k)) ?_
  obtain ⟨rv1, _, ⟨T1, L1, k1, n1⟩, -, X1, ⟨Lc1, hQ1, l1, y1, z1⟩, st1⟩ := X0.specialBack hx (y := (⟨"java/lang/Throwable", "<init>", "(Ljava/lang/String;)V"⟩ : MethodName)) rfl hown (mvT hZ (wq hw 177 rfl)) (mvT hZ (wq hw 178 rfl)) (mvT hZ (wq hw 182 rfl)) (by decide) (backOfKL (W := 0) (thrInit l Z a0 hw [] a1 a2 uA sA h0 n0 Z0 g_a1 E_a1 U_a1 F_cause F_stackTrace F_suppressedExceptions F_backtrace F_detailMessage Od O6 O7 hlt) hZ (wq hw 182 rfl) (wq hw 181 rfl) (by decide) (by decide) (Vm.MethodsKnown.alikeC (hZi.alike.symm.trans hZ.alike) hK.1) (Vm.FramesKnown.alikeC (hZi.alike.symm.trans hZ.alike) hK.2)) (g := (mkF m 2 #[.val (.ref a1), .val (.ref a2)] [(.ref a2), (.ref a1)])) rfl (by rw [hml]; rfl) (Steps.refl _) (a := a1) (argsL := [(.ref a2)]) (rest := []) (lenOf pd_1 rfl) rfl (by show 2 * 0 + _ ≤ _; exact Nat.le_of_eq rfl) (hb hby d33_2) (fun _ _ => ⟨rfl, e0, (by decide : 0 + 1 ≤ _), (by decide : 0 + 2752 ≤ _)⟩)
  dsimp only [Pt.U, Pt.locs, Pt.cells, Pt.slots] at X1 l1 y1 z1 st1 hQ1
  have X1 := own_reb X1 l1 y1 z1
  obtain ⟨rfl, N1q, K1, U_1, Fm_1, Fz_1⟩ := hQ1
  have N1 := Fr.app N0 N1q
  have K0 := K0.trans K1 (allS (Or.inl (List.mem_of_getElem? (i := 0) rfl)) all0)
  refine Gl.pre (B := T1.setTop (mkF m 5 #[.val (.ref a1), .val (.ref a2)] [])) (fun _ k => st1.trans k) ?_
  refine Gl.out X1 (v := none) (fun _ => rfl) hlk (fun fs hr => X1.returnOut hx hret (hb hby d33_5) hr) ?_ (by decide) (by decide)
  show Q_excInit Z _ _ _ _ h0 n0 _ T1.heap _
  exact ⟨rfl, N1, K0, U_1, Fm_1, Fz_1⟩
theorem d32_0 : decode jdk_131_method_2_code 0 = .ok (.aload_n 0, 1) := by decide +kernel
theorem d32_1 : decode jdk_131_method_2_code 1 = .ok (.aload_n 1, 1) := by decide +kernel
theorem d32_2 : decode jdk_131_method_2_code 2 = .ok (.invokespecial 7, 3) := by decide +kernel
theorem d32_5 : decode jdk_131_method_2_code 5 = .ok (.return_, 1) := by decide +kernel
theorem pn_java_io_IOException : plainName "java/io/IOException" = true := by first | (simp [plainName, overriddenIn]; done) | decide +kernel
theorem ef_ioeInit (m : MethodId) (x0 : Addr) (x1 : Addr) : entryFrame m #[(.ref x0), (.ref x1)] 2 = mkF m 0 #[.val (.ref x0), .val (.ref x1)] [] := by first | (simp [entryFrame, mkF, argsToLocals, Value.category]; done) | rfl
def Q_ioeInit (Z : State) (a1 : Addr) (a2 : Addr) (uA : Addr) (sA : Addr) (h0 : Heap) (n0 : Nat) (v : Option Value) (h : Heap) (L : List Loc) : Prop := v = none ∧ Fr n0 L ∧ (Keep h0 h [a1]) ∧ (Unt h a1) ∧ (Fld Z h a1 "java/lang/Throwable" "detailMessage" "Ljava/lang/String;" (.ref a2)) ∧ (Fld Z h a1 "java/lang/Throwable" "cause" "Ljava/lang/Throwable;" (.ref a1))
set_option maxRecDepth 65536 in
set_option maxHeartbeats 40000000 in
theorem ioeInit (l : Launch) (Z : State) (a0 : Array Value) (hw : ∀ d ∈ tables_1, d.before a0 Z = true) (ws : List Jvm.Cond) (a1 : Addr) (a2 : Addr) (uA : Addr) (sA : Addr) (h0 : Heap) (n0 : Nat) (Z0 : n0 ≤ h0.size) (g_a1 : n0 ≤ a1) (E_a1 : Exa Z h0 a1 "java/io/IOException") (U_a1 : Unt h0 a1) (F_cause : Fld Z h0 a1 "java/lang/Throwable" "cause" "Ljava/lang/Throwable;" .null) (F_stackTrace : Fld Z h0 a1 "java/lang/Throwable" "stackTrace" "[Ljava/lang/StackTraceElement;" .null) (F_suppressedExceptions : Fld Z h0 a1 "java/lang/Throwable" "suppressedExceptions" "Ljava/util/List;" .null) (F_backtrace : Fld Z h0 a1 "java/lang/Throwable" "backtrace" "Ljava/lang/Object;" .null) (F_detailMessage : Fld Z h0 a1 "java/lang/Throwable" "detailMessage" "Ljava/lang/String;" .null) (Od : Old Z n0 h0) (O6 : Sta Z Z.heap "java/lang/Throwable" "UNASSIGNED_STACK" "[Ljava/lang/StackTraceElement;" (.ref uA)) (O7 : Sta Z Z.heap "java/lang/Throwable" "SUPPRESSED_SENTINEL" "Ljava/util/List;" (.ref sA)) (hlt : l.stackTraces = true) :
    MetFree l (⟨"java/io/IOException", "<init>", "(Ljava/lang/String;)V"⟩ : MethodName) (head1 (Jvm.Cond.code (⟨"java/io/IOException", "<init>", "(Ljava/lang/String;)V"⟩ : MethodName) jdk_131_method_2_code 2 none :: ws) ({ frames := 5, cells := 1, slots := 2752, locals := 68 } : Room)) (fun a U => a = #[(.ref a1), (.ref a2)] ∧ Z.Warmed39 U.vm ∧ U.heap = h0) (fun _ _ bl s _ => s.vm.MethodsKnown ∧ s.vm.FramesKnown bl) (fun _ U o U' => ∃ v L, o = .returned v ∧ Q_ioeInit Z a1 a2 uA sA h0 n0 v U'.heap L ∧ FrameEnd U o U' L ({ frames := 5, cells := 1, slots := 2752, locals := 68 } : Room).cells ({ frames := 5, cells := 1, slots := 2752, locals := 68 } : Room).slots) := by
  refine MetFree.of_bodySF (plainFor_of_name pn_java_io_IOException) hisR ?_
  intro p e s m args below meth c s₁ Bd hml0 hP hK
  obtain ⟨rfl, hZ, hh⟩ := hP
  have hx := Bd.exec
  have hby := Bd.bytes
  have hml : c.maxLocals = 2 := hml0
  have hown : s.vm.findClass "java/io/IOException" = some m.cls := findClass_of_methodNamed Bd.named
  have hnm := (name_of_methodNamed Bd.named Bd.method).1
  have hret : meth.sig.returnType = none := Bd.returns
  have hlk : meth.locks = false := BodyLoose.notSynchronized Bd
  have X0 : Stand p l e ({ frames := 5, cells := 1, slots := 2752, locals := 68 } : Room) s m #[(.ref a1), (.ref a2)] below meth c s₁ [] 0 0 := Stand.of_body Bd
  have e0 : s₁.heap = h0 := by rw [← hh, Bd.state]; rfl
  have N0 := Fr.nil n0
  have hZi : Z.Warmed39 s.vm := hZ
  have K0 : Keep h0 h0 [a1] := Keep.refl h0 _
  show Gl p.tables e below s (Q_ioeInit Z a1 a2 uA sA h0 n0) 1 2752 _
  refine Gl.pre (B := s₁.setTop (mkF m 0 #[.val (.ref a1), .val (.ref a2)] [])) (fun _ k => castTop (ef_ioeInit m a1 a2) k) ?_
  refine Gl.pre (B := s₁.setTop (mkF m 2 #[.val (.ref a1), .val (.ref a2)] [(.ref a2), (.ref a1)])) (fun _ k => XS.aloadN X0.here hx rfl (hb hby d32_0) rfl rfl (XS.aloadN X0.here hx rfl (hb hby d32_1) rfl rfl k)) ?_
  obtain ⟨rv1, _, ⟨T1, L1, k1, n1⟩, -, X1, ⟨Lc1, hQ1, l1, y1, z1⟩, st1⟩ := X0.specialBack hx (y := (⟨"java/lang/Exception", "<init>", "(Ljava/lang/String;)V"⟩ : MethodName)) rfl hown (mvT hZ (wq hw 171 rfl)) (mvT hZ (wq hw 172 rfl)) (mvT hZ (wq hw 176 rfl)) (by decide) (backOfKL (W := 0) (excInit l Z a0 hw [] a1 a2 uA sA h0 n0 Z0 g_a1 E_a1 U_a1 F_cause F_stackTrace F_suppressedExceptions F_backtrace F_detailMessage Od O6 O7 hlt) hZ (wq hw 176 rfl) (wq hw 175 rfl) (by decide) (by decide) (Vm.MethodsKnown.alikeC (hZi.alike.symm.trans hZ.alike) hK.1) (Vm.FramesKnown.alikeC (hZi.alike.symm.trans hZ.alike) hK.2)) (g := (mkF m 2 #[.val (.ref a1), .val (.ref a2)] [(.ref a2), (.ref a1)])) rfl (by rw [hml]; rfl) (Steps.refl _) (a := a1) (argsL := [(.ref a2)]) (rest := []) (lenOf pd_1 rfl) rfl (by show 2 * 0 + _ ≤ _; exact Nat.le_of_eq rfl) (hb hby d32_2) (fun _ _ => ⟨rfl, e0, (by decide : 0 + 1 ≤ _), (by decide : 0 + 2752 ≤ _)⟩)
  dsimp only [Pt.U, Pt.locs, Pt.cells, Pt.slots] at X1 l1 y1 z1 st1 hQ1
  have X1 := own_reb X1 l1 y1 z1
  obtain ⟨rfl, N1q, K1, U_1, Fm_1, Fz_1⟩ := hQ1
  have N1 := Fr.app N0 N1q
  have K0 := K0.trans K1 (allS (Or.inl (List.mem_of_getElem? (i := 0) rfl)) all0)
  refine Gl.pre (B := T1.setTop (mkF m 5 #[.val (.ref a1), .val (.ref a2)] [])) (fun _ k => st1.trans k) ?_
  refine Gl.out X1 (v := none) (fun _ => rfl) hlk (fun fs hr => X1.returnOut hx hret (hb hby d32_5) hr) ?_ (by decide) (by decide)
  show Q_ioeInit Z _ _ _ _ h0 n0 _ T1.heap _
  exact ⟨rfl, N1, K0, U_1, Fm_1, Fz_1⟩
theorem d8_0 : decode jdk_42_method_152_code 0 = .ok (.getstatic 38, 3) := by decide +kernel
theorem d8_3 : decode jdk_42_method_152_code 3 = .ok (.ifCond .eq 10, 3) := by decide +kernel
theorem d8_6 : decode jdk_42_method_152_code 6 = .ok (.aload_n 0, 1) := by decide +kernel
theorem d8_7 : decode jdk_42_method_152_code 7 = .ok (.getfield 15, 3) := by decide +kernel
theorem d8_10 : decode jdk_42_method_152_code 10 = .ok (.goto 4, 3) := by decide +kernel
theorem d8_14 : decode jdk_42_method_152_code 14 = .ok (.ireturn, 1) := by decide +kernel
theorem pn_java_lang_String : plainName "java/lang/String" = true := by first | (simp [plainName, overriddenIn]; done) | decide +kernel
theorem ef_strCoder0 (m : MethodId) (x0 : Addr) : entryFrame m #[(.ref x0)] 1 = mkF m 0 #[.val (.ref x0)] [] := by first | (simp [entryFrame, mkF, argsToLocals, Value.category]; done) | rfl
def Q_strCoder0 (Z : State) (a1 : Addr) (G1 : Int32) (h0 : Heap) (n0 : Nat) (v : Option Value) (h : Heap) (L : List Loc) : Prop := v = some (.int 0) ∧ Fr n0 L ∧ (h = h0)
set_option maxRecDepth 65536 in
set_option maxHeartbeats 40000000 in
theorem strCoder0 (l : Launch) (Z : State) (a0 : Array Value) (hw : ∀ d ∈ tables_1, d.before a0 Z = true) (ws : List Jvm.Cond) (a1 : Addr) (G1 : Int32) (h0 : Heap) (n0 : Nat) (Z0 : n0 ≤ h0.size) (Fc : Fld Z h0 a1 "java/lang/String" "coder" "B" (.int 0)) (O2 : Sta Z Z.heap "java/lang/String" "COMPACT_STRINGS" "Z" (.int G1)) (P5 : ¬ (G1 = (0 : Int32))) (Od : Old Z n0 h0) :
    MetFree l (⟨"java/lang/String", "coder", "()B"⟩ : MethodName) (head1 (Jvm.Cond.code (⟨"java/lang/String", "coder", "()B"⟩ : MethodName) jdk_42_method_152_code 1 (some .byte) :: ws) ({ frames := 0, cells := 0, slots := 0, locals := 0 } : Room)) (fun a U => a = #[(.ref a1)] ∧ Z.Warmed39 U.vm ∧ U.heap = h0) (fun _ _ _ _ _ => True) (fun _ U o U' => ∃ v L, o = .returned v ∧ Q_strCoder0 Z a1 G1 h0 n0 v U'.heap L ∧ FrameEnd U o U' L ({ frames := 0, cells := 0, slots := 0, locals := 0 } : Room).cells ({ frames := 0, cells := 0, slots := 0, locals := 0 } : Room).slots) := by
  refine MetFree.of_bodySF (plainFor_of_name pn_java_lang_String) hisR ?_
  intro p e s m args below meth c s₁ Bd hml0 hP hK
  obtain ⟨rfl, hZ, hh⟩ := hP
  have hx := Bd.exec
  have hby := Bd.bytes
  have hml : c.maxLocals = 1 := hml0
  have hown : s.vm.findClass "java/lang/String" = some m.cls := findClass_of_methodNamed Bd.named
  have hnm := (name_of_methodNamed Bd.named Bd.method).1
  have hret : meth.sig.returnType = (some .byte) := Bd.returns
  have hlk : meth.locks = false := BodyLoose.notSynchronized Bd
  have X0 : Stand p l e ({ frames := 0, cells := 0, slots := 0, locals := 0 } : Room) s m #[(.ref a1)] below meth c s₁ [] 0 0 := Stand.of_body Bd
  have e0 : s₁.heap = h0 := by rw [← hh, Bd.state]; rfl
  have N0 := Fr.nil n0
  have K0 : Keep h0 h0 [] := Keep.refl h0 _
  show Gl p.tables e below s (Q_strCoder0 Z a1 G1 h0 n0) 0 0 _
  refine Gl.pre (B := s₁.setTop (mkF m 0 #[.val (.ref a1)] [])) (fun _ k => castTop (ef_strCoder0 m a1) k) ?_
  obtain ⟨T1, X1, e1, st1⟩ := getS2 X0 hx hZ hown (host := "") (Or.inl (wq hw 56 rfl)) Via.refl e0 (O2.ext Od.2) (g := (mkF m 0 #[.val (.ref a1)] [])) rfl (hb hby d8_0)
  refine Gl.pre (B := T1.setTop (mkF m 7 #[.val (.ref a1)] [(.ref a1)])) (fun _ k => st1 _ (XS.ifNo X1.here hx rfl (hb hby d8_3) rfl ((if0 _ _).trans (feq (P5 : ¬ (G1 = (0 : Int32)))).1) (XS.aloadN X1.here hx rfl (hb hby d8_6) rfl rfl k))) ?_
  obtain ⟨T2, X2, e2, st2⟩ := getF X1 hx hZ hown (host := "") (Or.inl (wq hw 57 rfl)) Via.refl e1 Fc (g := (mkF m 7 #[.val (.ref a1)] [(.ref a1)])) rfl rfl (hb hby d8_7)
  refine Gl.pre (B := T2.setTop (mkF m 14 #[.val (.ref a1)] [(.int 0)])) (fun _ k => st2 _ (XS.goto X2.here hx rfl (pc0 := 10) (pc' := 14) rfl (hb hby d8_10) (by decide) (by decide) k)) ?_
  refine Gl.out X2 (v := some (.int 0)) (fun h => by rw [hret] at h; cases h) hlk (fun fs hr => retN X2 hx (t := .byte) hret (by simp) (hb hby d8_14) hr) ?_ (by decide) (by decide)
  show Q_strCoder0 Z _ _ h0 n0 _ T2.heap _
  rw [e2]
  exact ⟨rfl, N0, rfl⟩
theorem pd_2 : parseMethodDescriptor "()B" = some ⟨[], some .byte⟩ := by decide +kernel
theorem d7_0 : decode jdk_42_method_54_code 0 = .ok (.aload_n 0, 1) := by decide +kernel
theorem d7_1 : decode jdk_42_method_54_code 1 = .ok (.getfield 9, 3) := by decide +kernel
theorem d7_4 : decode jdk_42_method_54_code 4 = .ok (.arraylength, 1) := by decide +kernel
theorem d7_5 : decode jdk_42_method_54_code 5 = .ok (.aload_n 0, 1) := by decide +kernel
theorem d7_6 : decode jdk_42_method_54_code 6 = .ok (.invokevirtual 335, 3) := by decide +kernel
theorem d7_9 : decode jdk_42_method_54_code 9 = .ok (.ishr, 1) := by decide +kernel
theorem d7_10 : decode jdk_42_method_54_code 10 = .ok (.ireturn, 1) := by decide +kernel
theorem ef_strLen (m : MethodId) (x0 : Addr) : entryFrame m #[(.ref x0)] 1 = mkF m 0 #[.val (.ref x0)] [] := by first | (simp [entryFrame, mkF, argsToLocals, Value.category]; done) | rfl
def Q_strLen (Z : State) (a1 : Addr) (t : Addr) (k : ClassId) (cs : List Int32) (G1 : Int32) (h0 : Heap) (n0 : Nat) (v : Option Value) (h : Heap) (L : List Loc) : Prop := v = some (.int (Int32.ofNat cs.length)) ∧ Fr n0 L ∧ (h = h0)
set_option maxRecDepth 65536 in
set_option maxHeartbeats 40000000 in
theorem strLen (l : Launch) (Z : State) (a0 : Array Value) (hw : ∀ d ∈ tables_1, d.before a0 Z = true) (ws : List Jvm.Cond) (a1 : Addr) (t : Addr) (k : ClassId) (cs : List Int32) (G1 : Int32) (h0 : Heap) (n0 : Nat) (Z0 : n0 ≤ h0.size) (sv : StrV Z h0 a1 t k cs) (O2 : Sta Z Z.heap "java/lang/String" "COMPACT_STRINGS" "Z" (.int G1)) (P5 : ¬ (G1 = (0 : Int32))) (Od : Old Z n0 h0) :
    MetFree l (⟨"java/lang/String", "length", "()I"⟩ : MethodName) (head1 (Jvm.Cond.code (⟨"java/lang/String", "length", "()I"⟩ : MethodName) jdk_42_method_54_code 1 (some .int) :: ws) ({ frames := 1, cells := 0, slots := 0, locals := 13 } : Room)) (fun a U => a = #[(.ref a1)] ∧ Z.Warmed39 U.vm ∧ U.heap = h0) (fun _ _ _ _ _ => True) (fun _ U o U' => ∃ v L, o = .returned v ∧ Q_strLen Z a1 t k cs G1 h0 n0 v U'.heap L ∧ FrameEnd U o U' L ({ frames := 1, cells := 0, slots := 0, locals := 13 } : Room).cells ({ frames := 1, cells := 0, slots := 0, locals := 13 } : Room).slots) := by
  refine MetFree.of_bodySF (plainFor_of_name pn_java_lang_String) hisR ?_
  intro p e s m args below meth c s₁ Bd hml0 hP hK
  obtain ⟨rfl, hZ, hh⟩ := hP
  have hx := Bd.exec
  have hby := Bd.bytes
  have hml : c.maxLocals = 1 := hml0
  have hown : s.vm.findClass "java/lang/String" = some m.cls := findClass_of_methodNamed Bd.named
  have hnm := (name_of_methodNamed Bd.named Bd.method).1
  have hret : meth.sig.returnType = (some .int) := Bd.returns
  have hlk : meth.locks = false := BodyLoose.notSynchronized Bd
  have X0 : Stand p l e ({ frames := 1, cells := 0, slots := 0, locals := 13 } : Room) s m #[(.ref a1)] below meth c s₁ [] 0 0 := Stand.of_body Bd
  have e0 : s₁.heap = h0 := by rw [← hh, Bd.state]; rfl
  have N0 := Fr.nil n0
  have K0 : Keep h0 h0 [] := Keep.refl h0 _
  show Gl p.tables e below s (Q_strLen Z a1 t k cs G1 h0 n0) 0 0 _
  refine Gl.pre (B := s₁.setTop (mkF m 0 #[.val (.ref a1)] [])) (fun _ k => castTop (ef_strLen m a1) k) ?_
  obtain ⟨E_a1, Fv_a1, Fc_a1, V_a1, hb_a1, hl_a1⟩ := id sv
  refine Gl.pre (B := s₁.setTop (mkF m 1 #[.val (.ref a1)] [(.ref a1)])) (fun _ k => XS.aloadN X0.here hx rfl (hb hby d7_0) rfl rfl k) ?_
  obtain ⟨T1, X1, e1, st1⟩ := getF X0 hx hZ hown (host := "") (Or.inl (wq hw 50 rfl)) Via.refl e0 Fv_a1 (g := (mkF m 1 #[.val (.ref a1)] [(.ref a1)])) rfl rfl (hb hby d7_1)
  refine Gl.pre (B := T1.setTop (mkF m 4 #[.val (.ref a1)] [(.ref t)])) (fun _ k => st1 _ k) ?_
  obtain ⟨cl2, Ar2, -, Sz2, Nn2, -, -⟩ := id V_a1
  refine Gl.pre (B := T1.setTop (mkF m 5 #[.val (.ref a1)] [(.int (Int32.ofNat cs.length))])) (fun _ k => ?_) ?_
  · refine X1.arraylength hx (by rw [e1]; exact Ar2.1) (State.isArrayOf_alike hZ.alike Ar2.2.1) (g := (mkF m 4 #[.val (.ref a1)] [(.ref t)])) rfl rfl (hb hby d7_4) _ ?_
    rw [len_of Sz2 Nn2]
    exact k
  refine Gl.pre (B := T1.setTop (mkF m 6 #[.val (.ref a1)] [(.ref a1), (.int (Int32.ofNat cs.length))])) (fun _ k => XS.aloadN X1.here hx rfl (hb hby d7_5) rfl rfl k) ?_
  obtain ⟨cq3, kq3, q3a, q3b, q3c⟩ := isOf hZ e1 E_a1
  obtain ⟨rv3, _, ⟨T3, L3, k3, n3⟩, -, X3, ⟨Lc3, hQ3, l3, y3, z3⟩, st3⟩ := X1.virtualBack hx (y := (⟨"java/lang/String", "coder", "()B"⟩ : MethodName)) (z := (⟨"java/lang/String", "coder", "()B"⟩ : MethodName)) hown (mvT hZ (wq hw 51 rfl)) (mvT hZ (wq hw 52 rfl)) (notFace_of_selects (args := #[]) (mvT hZ (wq hw 54 rfl))) (mvT hZ (wq hw 54 rfl)) (mvT hZ (wq hw 53 rfl)) (by decide) (backOf (W := 1) (strCoder0 l Z a0 hw [] a1 G1 h0 n0 Z0 Fc_a1 O2 P5 Od) hZ (wq hw 55 rfl) (wq hw 23 rfl) (by decide) (by decide)) q3a q3c (g := (mkF m 6 #[.val (.ref a1)] [(.ref a1), (.int (Int32.ofNat cs.length))])) rfl (by rw [hml]; rfl) (Steps.refl _) (argsL := []) (rest := [(.int (Int32.ofNat cs.length))]) (lenOf pd_2 rfl) rfl (by show 2 * 0 + _ ≤ _; exact Nat.le_of_eq rfl) (hb hby d7_6) (fun _ _ => ⟨rfl, e1, (by decide : 0 + 0 ≤ _), (by decide : 0 + 0 ≤ _)⟩)
  dsimp only [Pt.U, Pt.locs, Pt.cells, Pt.slots] at X3 l3 y3 z3 st3 hQ3
  have X3 := own_reb X3 l3 y3 z3
  obtain ⟨rfl, N3q, e3⟩ := hQ3
  have N3 := Fr.app N0 N3q
  refine Gl.pre (B := T3.setTop (mkF m 10 #[.val (.ref a1)] [(.int ((Int32.ofNat cs.length) >>> (0 &&& 31)))])) (fun _ k => st3.trans (XS.ishr X3.here hx rfl (hb hby d7_9) rfl k)) ?_
  rw [own_shr0]
  refine Gl.out X3 (v := some (.int (Int32.ofNat cs.length))) (fun h => by rw [hret] at h; cases h) hlk (fun fs hr => retOut X3 hx hret rfl (Or.inl ⟨rfl, Or.inl rfl, _, rfl⟩) (hb hby d7_10) hr) ?_ (by decide) (by decide)
  show Q_strLen Z _ _ _ _ _ h0 n0 _ T3.heap _
  rw [e3]
  exact ⟨rfl, N3, rfl⟩
theorem d3_0 : decode jdk_68_method_2_code 0 = .ok (.aload_n 0, 1) := by decide +kernel
theorem d3_1 : decode jdk_68_method_2_code 1 = .ok (.invokespecial 3, 3) := by decide +kernel
theorem d3_4 : decode jdk_68_method_2_code 4 = .ok (.getstatic 18, 3) := by decide +kernel
theorem d3_7 : decode jdk_68_method_2_code 7 = .ok (.ifCond .eq 18, 3) := by decide +kernel
theorem d3_10 : decode jdk_68_method_2_code 10 = .ok (.aload_n 0, 1) := by decide +kernel
theorem d3_11 : decode jdk_68_method_2_code 11 = .ok (.iload_n 1, 1) := by decide +kernel
theorem d3_12 : decode jdk_68_method_2_code 12 = .ok (.newarray .byte, 2) := by decide +kernel
theorem d3_14 : decode jdk_68_method_2_code 14 = .ok (.putfield 15, 3) := by decide +kernel
theorem d3_17 : decode jdk_68_method_2_code 17 = .ok (.aload_n 0, 1) := by decide +kernel
theorem d3_18 : decode jdk_68_method_2_code 18 = .ok (.iconst 0, 1) := by decide +kernel
theorem d3_19 : decode jdk_68_method_2_code 19 = .ok (.putfield 22, 3) := by decide +kernel
theorem d3_22 : decode jdk_68_method_2_code 22 = .ok (.goto 16, 3) := by decide +kernel
theorem d3_38 : decode jdk_68_method_2_code 38 = .ok (.return_, 1) := by decide +kernel
theorem pn_java_lang_AbstractStringBuilder : plainName "java/lang/AbstractStringBuilder" = true := by first | (simp [plainName, overriddenIn]; done) | decide +kernel
theorem ef_asbInit (m : MethodId) (x0 : Addr) (x1 : Int32) : entryFrame m #[(.ref x0), (.int x1)] 2 = mkF m 0 #[.val (.ref x0), .val (.int x1)] [] := by first | (simp [entryFrame, mkF, argsToLocals, Value.category]; done) | rfl
def Q_asbInit (Z : State) (a1 : Addr) (G1 : Int32) (h0 : Heap) (n0 : Nat) (v : Option Value) (h : Heap) (L : List Loc) : Prop := ∃ t : Addr, ∃ kt : ClassId, v = none ∧ Fr n0 L ∧ (Keep h0 h [a1]) ∧ (h0.size ≤ t) ∧ (Fld Z h a1 "java/lang/AbstractStringBuilder" "value" "[B" (.ref t)) ∧ (Fld Z h a1 "java/lang/AbstractStringBuilder" "coder" "B" (.int (0 : Int32))) ∧ (Fld Z h a1 "java/lang/AbstractStringBuilder" "count" "I" (.int (0 : Int32))) ∧ (Arv Z h t kt .byte (16 : Int32) [(.int (0 : Int32)), (.int (0 : Int32)), (.int (0 : Int32)), (.int (0 : Int32)), (.int (0 : Int32)), (.int (0 : Int32)), (.int (0 : Int32)), (.int (0 : Int32)), (.int (0 : Int32)), (.int (0 : Int32)), (.int (0 : Int32)), (.int (0 : Int32)), (.int (0 : Int32)), (.int (0 : Int32)), (.int (0 : Int32)), (.int (0 : Int32))] (.int (0 : Int32)))
set_option maxRecDepth 65536 in
set_option maxHeartbeats 40000000 in
theorem asbInit (l : Launch) (Z : State) (a0 : Array Value) (hw : ∀ d ∈ tables_1, d.before a0 Z = true) (ws : List Jvm.Cond) (a1 : Addr) (G1 : Int32) (h0 : Heap) (n0 : Nat) (Z0 : n0 ≤ h0.size) (g_a1 : n0 ≤ a1) (E_a1 : Exa Z h0 a1 "java/lang/StringBuilder") (Fv_a1 : Fld Z h0 a1 "java/lang/AbstractStringBuilder" "value" "[B" .null) (Fc_a1 : Fld Z h0 a1 "java/lang/AbstractStringBuilder" "coder" "B" (.int (0 : Int32))) (Fn_a1 : Fld Z h0 a1 "java/lang/AbstractStringBuilder" "count" "I" (.int (0 : Int32))) (O2 : Sta Z Z.heap "java/lang/String" "COMPACT_STRINGS" "Z" (.int G1)) (P5 : ¬ (G1 = (0 : Int32))) (Od : Old Z n0 h0) :
    MetFree l (⟨"java/lang/AbstractStringBuilder", "<init>", "(I)V"⟩ : MethodName) (head1 (Jvm.Cond.code (⟨"java/lang/AbstractStringBuilder", "<init>", "(I)V"⟩ : MethodName) jdk_68_method_2_code 2 none :: ws) ({ frames := 1, cells := 1, slots := 16, locals := 12 } : Room)) (fun a U => a = #[(.ref a1), (.int (16 : Int32))] ∧ Z.Warmed39 U.vm ∧ U.heap = h0) (fun _ _ _ _ _ => True) (fun _ U o U' => ∃ v L, o = .returned v ∧ Q_asbInit Z a1 G1 h0 n0 v U'.heap L ∧ FrameEnd U o U' L ({ frames := 1, cells := 1, slots := 16, locals := 12 } : Room).cells ({ frames := 1, cells := 1, slots := 16, locals := 12 } : Room).slots) := by
  refine MetFree.of_bodySF (plainFor_of_name pn_java_lang_AbstractStringBuilder) hisR ?_
  intro p e s m args below meth c s₁ Bd hml0 hP hK
  obtain ⟨rfl, hZ, hh⟩ := hP
  have hx := Bd.exec
  have hby := Bd.bytes
  have hml : c.maxLocals = 2 := hml0
  have hown : s.vm.findClass "java/lang/AbstractStringBuilder" = some m.cls := findClass_of_methodNamed Bd.named
  have hnm := (name_of_methodNamed Bd.named Bd.method).1
  have hret : meth.sig.returnType = none := Bd.returns
  have hlk : meth.locks = false := BodyLoose.notSynchronized Bd
  have X0 : Stand p l e ({ frames := 1, cells := 1, slots := 16, locals := 12 } : Room) s m #[(.ref a1), (.int (16 : Int32))] below meth c s₁ [] 0 0 := Stand.of_body Bd
  have e0 : s₁.heap = h0 := by rw [← hh, Bd.state]; rfl
  have N0 := Fr.nil n0
  have K0 : Keep h0 h0 [a1] := Keep.refl h0 _
  show Gl p.tables e below s (Q_asbInit Z a1 G1 h0 n0) 1 16 _
  refine Gl.pre (B := s₁.setTop (mkF m 0 #[.val (.ref a1), .val (.int (16 : Int32))] [])) (fun _ k => castTop (ef_asbInit m a1 (16 : Int32)) k) ?_
  refine Gl.pre (B := s₁.setTop (mkF m 1 #[.val (.ref a1), .val (.int (16 : Int32))] [(.ref a1)])) (fun _ k => XS.aloadN X0.here hx rfl (hb hby d3_0) rfl rfl k) ?_
  obtain ⟨T1, X1, e1, st1⟩ := initO X0 hx hZ hown (wq hw 19 rfl) (wq hw 20 rfl) (wq hw 21 rfl) e0 (g := (mkF m 1 #[.val (.ref a1), .val (.int (16 : Int32))] [(.ref a1)])) rfl (by rw [hml]; rfl) rfl (hb hby d3_1) (by decide) (W := 0) (by show 2 * 0 + _ ≤ _; exact Nat.le_of_eq rfl) (by decide)
  refine Gl.pre (B := T1.setTop (mkF m 4 #[.val (.ref a1), .val (.int (16 : Int32))] [])) (fun _ k => st1 _ k) ?_
  obtain ⟨T2, X2, e2, st2⟩ := getS2 X1 hx hZ hown (host := "") (Or.inl (wq hw 22 rfl)) Via.refl e1 (O2.ext Od.2) (g := (mkF m 4 #[.val (.ref a1), .val (.int (16 : Int32))] [])) rfl (hb hby d3_4)
  refine Gl.pre (B := T2.setTop (mkF m 12 #[.val (.ref a1), .val (.int (16 : Int32))] [(.int (16 : Int32)), (.ref a1)])) (fun _ k => st2 _ (XS.ifNo X2.here hx rfl (hb hby d3_7) rfl ((if0 _ _).trans (feq (P5 : ¬ (G1 = (0 : Int32)))).1) (XS.aloadN X2.here hx rfl (hb hby d3_10) rfl rfl (XS.iloadN X2.here hx rfl (hb hby d3_11) rfl k)))) ?_
  obtain ⟨T3, h3, k3, X3, e3, E3, A3, st3⟩ := newP X2 hx hZ (wq hw 24 rfl) e2 (g := (mkF m 12 #[.val (.ref a1), .val (.int (16 : Int32))] [(.int (16 : Int32)), (.ref a1)])) rfl (hb hby d3_12) rfl (by decide) (cap := 16) (by decide) (by decide) (by decide) (by decide)
  obtain ⟨b3, g3⟩ : ∃ z, z = h0.size := ⟨_, rfl⟩
  rw [← g3] at A3 st3
  have ne_a1_b3 : a1 ≠ b3 := Nat.ne_of_lt (Nat.lt_of_lt_of_le E_a1.lt (Nat.le_of_eq g3.symm))
  have sz_b3 : h0.size ≤ b3 := Nat.le_trans K0.1 (Nat.le_of_eq g3.symm)
  have E_a1 := E_a1.ext E3
  have Fv_a1 := Fv_a1.ext E3
  have Fc_a1 := Fc_a1.ext E3
  have Fn_a1 := Fn_a1.ext E3
  have K0 := K0.ext E3
  have V_b3 : Arv Z h3 b3 k3 .byte (16 : Int32) [(.int (0 : Int32)), (.int (0 : Int32)), (.int (0 : Int32)), (.int (0 : Int32)), (.int (0 : Int32)), (.int (0 : Int32)), (.int (0 : Int32)), (.int (0 : Int32)), (.int (0 : Int32)), (.int (0 : Int32)), (.int (0 : Int32)), (.int (0 : Int32)), (.int (0 : Int32)), (.int (0 : Int32)), (.int (0 : Int32)), (.int (0 : Int32))] (.int (0 : Int32)) := (Arv.new A3 (by decide)).pad (pad_rep [] (.int (0 : Int32)) 16)
  refine Gl.pre (B := T3.setTop (mkF m 14 #[.val (.ref a1), .val (.int (16 : Int32))] [(.ref b3), (.ref a1)])) (fun _ k => st3 _ k) ?_
  obtain ⟨T4, h4, X4, e4, W4, st4⟩ := putF X3 hx hZ hown (host := "") (Or.inl (wq hw 25 rfl)) Via.refl e3 Fv_a1 E_a1 (Or.inl (wq hw 26 rfl)) (wq hw 8 rfl) (ty := (.array .byte)) (by decide) rfl rfl (g := (mkF m 14 #[.val (.ref a1), .val (.int (16 : Int32))] [(.ref b3), (.ref a1)])) rfl rfl (hb hby d3_14)
  have N4 := Fr.snoc X4 N0 g_a1
  have Fv_a1_n := Fv_a1.same W4
  have E_a1 := E_a1.wr W4
  have Fc_a1 := Fc_a1.other W4 (Or.inr (slot_ne (Or.inl (wq hw 28 rfl)) (Or.inl (wq hw 26 rfl)) (by decide) (t := .byte) (t' := (.array .byte)) (by decide) (by decide)))
  have Fn_a1 := Fn_a1.other W4 (Or.inr (slot_ne (Or.inl (wq hw 59 rfl)) (Or.inl (wq hw 26 rfl)) (by decide) (t := .int) (t' := (.array .byte)) (by decide) (by decide)))
  have K0 := K0.wr W4 (Or.inl (List.mem_of_getElem? (i := 0) rfl))
  have V_b3 := V_b3.other W4 (Ne.symm ne_a1_b3)
  have Fv_a1 := Fv_a1_n
  refine Gl.pre (B := T4.setTop (mkF m 19 #[.val (.ref a1), .val (.int (16 : Int32))] [(.int (0 : Int32)), (.ref a1)])) (fun _ k => st4 _ (XS.aloadN X4.here hx rfl (hb hby d3_17) rfl rfl (XS.iconst X4.here hx rfl (hb hby d3_18) k))) ?_
  obtain ⟨T5, h5, X5, e5, W5, st5⟩ := putFN X4 hx hZ hown (wq hw 27 rfl) Via.refl e4 Fc_a1 E_a1 (Or.inl (wq hw 28 rfl)) (wq hw 8 rfl) (ty := .byte) (v' := (.int (0 : Int32))) (by decide) rfl rfl (g := (mkF m 19 #[.val (.ref a1), .val (.int (16 : Int32))] [(.int (0 : Int32)), (.ref a1)])) rfl rfl (hb hby d3_19)
  have N5 := Fr.snoc X5 N4 g_a1
  have Fc_a1_n := Fc_a1.same W5
  have Fn_a1 := Fn_a1.other W5 (Or.inr (slot_ne (Or.inl (wq hw 59 rfl)) (Or.inl (wq hw 28 rfl)) (by decide) (t := .int) (t' := .byte) (by decide) (by decide)))
  have K0 := K0.wr W5 (Or.inl (List.mem_of_getElem? (i := 0) rfl))
  have V_b3 := V_b3.other W5 (Ne.symm ne_a1_b3)
  have Fv_a1 := Fv_a1.other W5 (Or.inr (slot_ne (Or.inl (wq hw 26 rfl)) (Or.inl (wq hw 28 rfl)) (by decide) (t := (.array .byte)) (t' := .byte) (by decide) (by decide)))
  have Fc_a1 := Fc_a1_n
  refine Gl.pre (B := T5.setTop (mkF m 38 #[.val (.ref a1), .val (.int (16 : Int32))] [])) (fun _ k => st5 _ (XS.goto X5.here hx rfl (pc0 := 22) (pc' := 38) rfl (hb hby d3_22) (by decide) (by decide) k)) ?_
  refine Gl.out X5 (v := none) (fun _ => rfl) hlk (fun fs hr => X5.returnOut hx hret (hb hby d3_38) hr) ?_ (by decide) (by decide)
  show Q_asbInit Z _ _ h0 n0 _ T5.heap _
  rw [e5]
  exact ⟨b3, _, rfl, N5, K0, sz_b3, Fv_a1, Fc_a1, Fn_a1, V_b3⟩
theorem pd_3 : parseMethodDescriptor "(I)V" = some ⟨[.int], none⟩ := by decide +kernel
theorem d2_0 : decode jdk_67_method_1_code 0 = .ok (.aload_n 0, 1) := by decide +kernel
theorem d2_1 : decode jdk_67_method_1_code 1 = .ok (.bipush 16, 2) := by decide +kernel
theorem d2_3 : decode jdk_67_method_1_code 3 = .ok (.invokespecial 1, 3) := by decide +kernel
theorem d2_6 : decode jdk_67_method_1_code 6 = .ok (.return_, 1) := by decide +kernel
theorem pn_java_lang_StringBuilder : plainName "java/lang/StringBuilder" = true := by first | (simp [plainName, overriddenIn]; done) | decide +kernel
theorem ef_sbInit (m : MethodId) (x0 : Addr) : entryFrame m #[(.ref x0)] 1 = mkF m 0 #[.val (.ref x0)] [] := by first | (simp [entryFrame, mkF, argsToLocals, Value.category]; done) | rfl
def Q_sbInit (Z : State) (a1 : Addr) (G1 : Int32) (h0 : Heap) (n0 : Nat) (v : Option Value) (h : Heap) (L : List Loc) : Prop := ∃ t : Addr, ∃ kt : ClassId, v = none ∧ Fr n0 L ∧ (Keep h0 h [a1]) ∧ (h0.size ≤ t) ∧ (SBs Z h a1 t kt 16 [])
set_option maxRecDepth 65536 in
set_option maxHeartbeats 40000000 in
theorem sbInit (l : Launch) (Z : State) (a0 : Array Value) (hw : ∀ d ∈ tables_1, d.before a0 Z = true) (ws : List Jvm.Cond) (a1 : Addr) (G1 : Int32) (h0 : Heap) (n0 : Nat) (Z0 : n0 ≤ h0.size) (g_a1 : n0 ≤ a1) (E_a1 : Exa Z h0 a1 "java/lang/StringBuilder") (Fv_a1 : Fld Z h0 a1 "java/lang/AbstractStringBuilder" "value" "[B" .null) (Fc_a1 : Fld Z h0 a1 "java/lang/AbstractStringBuilder" "coder" "B" (.int (0 : Int32))) (Fn_a1 : Fld Z h0 a1 "java/lang/AbstractStringBuilder" "count" "I" (.int (0 : Int32))) (O2 : Sta Z Z.heap "java/lang/String" "COMPACT_STRINGS" "Z" (.int G1)) (P5 : ¬ (G1 = (0 : Int32))) (Od : Old Z n0 h0) :
    MetFree l (⟨"java/lang/StringBuilder", "<init>", "()V"⟩ : MethodName) (head1 (Jvm.Cond.code (⟨"java/lang/StringBuilder", "<init>", "()V"⟩ : MethodName) jdk_67_method_1_code 1 none :: ws) ({ frames := 2, cells := 1, slots := 16, locals := 25 } : Room)) (fun a U => a = #[(.ref a1)] ∧ Z.Warmed39 U.vm ∧ U.heap = h0) (fun _ _ _ _ _ => True) (fun _ U o U' => ∃ v L, o = .returned v ∧ Q_sbInit Z a1 G1 h0 n0 v U'.heap L ∧ FrameEnd U o U' L ({ frames := 2, cells := 1, slots := 16, locals := 25 } : Room).cells ({ frames := 2, cells := 1, slots := 16, locals := 25 } : Room).slots) := by
  refine MetFree.of_bodySF (plainFor_of_name pn_java_lang_StringBuilder) hisR ?_
  intro p e s m args below meth c s₁ Bd hml0 hP hK
  obtain ⟨rfl, hZ, hh⟩ := hP
  have hx := Bd.exec
  have hby := Bd.bytes
  have hml : c.maxLocals = 1 := hml0
  have hown : s.vm.findClass "java/lang/StringBuilder" = some m.cls := findClass_of_methodNamed Bd.named
  have hnm := (name_of_methodNamed Bd.named Bd.method).1
  have hret : meth.sig.returnType = none := Bd.returns
  have hlk : meth.locks = false := BodyLoose.notSynchronized Bd
  have X0 : Stand p l e ({ frames := 2, cells := 1, slots := 16, locals := 25 } : Room) s m #[(.ref a1)] below meth c s₁ [] 0 0 := Stand.of_body Bd
  have e0 : s₁.heap = h0 := by rw [← hh, Bd.state]; rfl
  have N0 := Fr.nil n0
  have K0 : Keep h0 h0 [a1] := Keep.refl h0 _
  show Gl p.tables e below s (Q_sbInit Z a1 G1 h0 n0) 1 16 _
  refine Gl.pre (B := s₁.setTop (mkF m 0 #[.val (.ref a1)] [])) (fun _ k => castTop (ef_sbInit m a1) k) ?_
  refine Gl.pre (B := s₁.setTop (mkF m 3 #[.val (.ref a1)] [(.int (16 : Int32)), (.ref a1)])) (fun _ k => XS.aloadN X0.here hx rfl (hb hby d2_0) rfl rfl (XS.bipush X0.here hx rfl (hb hby d2_1) k)) ?_
  obtain ⟨rv1, _, ⟨T1, L1, k1, n1⟩, -, X1, ⟨Lc1, hQ1, l1, y1, z1⟩, st1⟩ := X0.specialBack hx (y := (⟨"java/lang/AbstractStringBuilder", "<init>", "(I)V"⟩ : MethodName)) rfl hown (mvT hZ (wq hw 13 rfl)) (mvT hZ (wq hw 14 rfl)) (mvT hZ (wq hw 18 rfl)) (by decide) (backOf (W := 0) (asbInit l Z a0 hw [] a1 G1 h0 n0 Z0 g_a1 E_a1 Fv_a1 Fc_a1 Fn_a1 O2 P5 Od) hZ (wq hw 18 rfl) (wq hw 17 rfl) (by decide) (by decide)) (g := (mkF m 3 #[.val (.ref a1)] [(.int (16 : Int32)), (.ref a1)])) rfl (by rw [hml]; rfl) (Steps.refl _) (a := a1) (argsL := [(.int (16 : Int32))]) (rest := []) (lenOf pd_3 rfl) rfl (by show 2 * 0 + _ ≤ _; exact Nat.le_of_eq rfl) (hb hby d2_3) (fun _ _ => ⟨rfl, e0, (by decide : 0 + 1 ≤ _), (by decide : 0 + 16 ≤ _)⟩)
  dsimp only [Pt.U, Pt.locs, Pt.cells, Pt.slots] at X1 l1 y1 z1 st1 hQ1
  have X1 := own_reb X1 l1 y1 z1
  obtain ⟨t_1, kt_1, rfl, N1q, K1, nz_t_1, Fv_1, Fc_1, Fn_1, V_1⟩ := hQ1
  have N1 := Fr.app N0 N1q
  have E_a1 := E_a1.keep K1
  have K0 := K0.trans K1 (allS (Or.inl (List.mem_of_getElem? (i := 0) rfl)) all0)
  refine Gl.pre (B := T1.setTop (mkF m 6 #[.val (.ref a1)] [])) (fun _ k => st1.trans k) ?_
  refine Gl.out X1 (v := none) (fun _ => rfl) hlk (fun fs hr => X1.returnOut hx hret (hb hby d2_6) hr) ?_ (by decide) (by decide)
  show Q_sbInit Z _ _ h0 n0 _ T1.heap _
  exact ⟨_, _, rfl, N1, K0, nz_t_1, E_a1, Fv_1, Fc_1, Fn_1, V_1, Nat.le_of_ble_eq_true rfl, Nat.le_of_ble_eq_true rfl, al0⟩
theorem ef_strCoder (m : MethodId) (x0 : Addr) : entryFrame m #[(.ref x0)] 1 = mkF m 0 #[.val (.ref x0)] [] := by first | (simp [entryFrame, mkF, argsToLocals, Value.category]; done) | rfl
def Q_strCoder (Z : State) (a1 : Addr) (G1 : Int32) (h0 : Heap) (n0 : Nat) (v : Option Value) (h : Heap) (L : List Loc) : Prop := v = some (.int 0) ∧ Fr n0 L ∧ (h = h0)
set_option maxRecDepth 65536 in
set_option maxHeartbeats 40000000 in
theorem strCoder (l : Launch) (Z : State) (a0 : Array Value) (hw : ∀ d ∈ tables_1, d.before a0 Z = true) (ws : List Jvm.Cond) (a1 : Addr) (G1 : Int32) (h0 : Heap) (n0 : Nat) (Z0 : n0 ≤ h0.size) (Fc : Fld Z h0 a1 "java/lang/String" "coder" "B" (.int 0)) (O2 : Sta Z Z.heap "java/lang/String" "COMPACT_STRINGS" "Z" (.int G1)) (P5 : ¬ (G1 = (0 : Int32))) (Od : Old Z n0 h0) :
    MetFree l (⟨"java/lang/String", "coder", "()B"⟩ : MethodName) (head1 (Jvm.Cond.code (⟨"java/lang/String", "coder", "()B"⟩ : MethodName) jdk_42_method_152_code 1 (some .byte) :: ws) ({ frames := 0, cells := 0, slots := 0, locals := 0 } : Room)) (fun a U => a = #[(.ref a1)] ∧ Z.Warmed39 U.vm ∧ U.heap = h0) (fun _ _ _ _ _ => True) (fun _ U o U' => ∃ v L, o = .returned v ∧ Q_strCoder Z a1 G1 h0 n0 v U'.heap L ∧ FrameEnd U o U' L ({ frames := 0, cells := 0, slots := 0, locals := 0 } : Room).cells ({ frames := 0, cells := 0, slots := 0, locals := 0 } : Room).slots) := by
  refine MetFree.of_bodySF (plainFor_of_name pn_java_lang_String) hisR ?_
  intro p e s m args below meth c s₁ Bd hml0 hP hK
  obtain ⟨rfl, hZ, hh⟩ := hP
  have hx := Bd.exec
  have hby := Bd.bytes
  have hml : c.maxLocals = 1 := hml0
  have hown : s.vm.findClass "java/lang/String" = some m.cls := findClass_of_methodNamed Bd.named
  have hnm := (name_of_methodNamed Bd.named Bd.method).1
  have hret : meth.sig.returnType = (some .byte) := Bd.returns
  have hlk : meth.locks = false := BodyLoose.notSynchronized Bd
  have X0 : Stand p l e ({ frames := 0, cells := 0, slots := 0, locals := 0 } : Room) s m #[(.ref a1)] below meth c s₁ [] 0 0 := Stand.of_body Bd
  have e0 : s₁.heap = h0 := by rw [← hh, Bd.state]; rfl
  have N0 := Fr.nil n0
  have K0 : Keep h0 h0 [] := Keep.refl h0 _
  show Gl p.tables e below s (Q_strCoder Z a1 G1 h0 n0) 0 0 _
  refine Gl.pre (B := s₁.setTop (mkF m 0 #[.val (.ref a1)] [])) (fun _ k => castTop (ef_strCoder m a1) k) ?_
  obtain ⟨T1, X1, e1, st1⟩ := getS2 X0 hx hZ hown (host := "") (Or.inl (wq hw 56 rfl)) Via.refl e0 (O2.ext Od.2) (g := (mkF m 0 #[.val (.ref a1)] [])) rfl (hb hby d8_0)
  refine Gl.pre (B := T1.setTop (mkF m 7 #[.val (.ref a1)] [(.ref a1)])) (fun _ k => st1 _ (XS.ifNo X1.here hx rfl (hb hby d8_3) rfl ((if0 _ _).trans (feq (P5 : ¬ (G1 = (0 : Int32)))).1) (XS.aloadN X1.here hx rfl (hb hby d8_6) rfl rfl k))) ?_
  obtain ⟨T2, X2, e2, st2⟩ := getF X1 hx hZ hown (host := "") (Or.inl (wq hw 57 rfl)) Via.refl e1 Fc (g := (mkF m 7 #[.val (.ref a1)] [(.ref a1)])) rfl rfl (hb hby d8_7)
  refine Gl.pre (B := T2.setTop (mkF m 14 #[.val (.ref a1)] [(.int 0)])) (fun _ k => st2 _ (XS.goto X2.here hx rfl (pc0 := 10) (pc' := 14) rfl (hb hby d8_10) (by decide) (by decide) k)) ?_
  refine Gl.out X2 (v := some (.int 0)) (fun h => by rw [hret] at h; cases h) hlk (fun fs hr => retN X2 hx (t := .byte) hret (by simp) (hb hby d8_14) hr) ?_ (by decide) (by decide)
  show Q_strCoder Z _ _ h0 n0 _ T2.heap _
  rw [e2]
  exact ⟨rfl, N0, rfl⟩
theorem d9_0 : decode jdk_68_method_9_code 0 = .ok (.aload_n 0, 1) := by decide +kernel
theorem d9_1 : decode jdk_68_method_9_code 1 = .ok (.getfield 15, 3) := by decide +kernel
theorem d9_4 : decode jdk_68_method_9_code 4 = .ok (.arraylength, 1) := by decide +kernel
theorem d9_5 : decode jdk_68_method_9_code 5 = .ok (.aload_n 0, 1) := by decide +kernel
theorem d9_6 : decode jdk_68_method_9_code 6 = .ok (.getfield 22, 3) := by decide +kernel
theorem d9_9 : decode jdk_68_method_9_code 9 = .ok (.ishr, 1) := by decide +kernel
theorem d9_10 : decode jdk_68_method_9_code 10 = .ok (.istore_n 2, 1) := by decide +kernel
theorem d9_11 : decode jdk_68_method_9_code 11 = .ok (.iload_n 1, 1) := by decide +kernel
theorem d9_12 : decode jdk_68_method_9_code 12 = .ok (.iload_n 2, 1) := by decide +kernel
theorem d9_13 : decode jdk_68_method_9_code 13 = .ok (.isub, 1) := by decide +kernel
theorem d9_14 : decode jdk_68_method_9_code 14 = .ok (.ifCond .le 24, 3) := by decide +kernel
theorem d9_38 : decode jdk_68_method_9_code 38 = .ok (.return_, 1) := by decide +kernel
theorem ef_ensCap (m : MethodId) (x0 : Addr) (x1 : Int32) : entryFrame m #[(.ref x0), (.int x1)] 3 = mkF m 0 #[.val (.ref x0), .val (.int x1), .unset] [] := by first | (simp [entryFrame, mkF, argsToLocals, Value.category]; done) | rfl
def Q_ensCap (Z : State) (a1 : Addr) (p2 : Int32) (t : Addr) (k : ClassId) (zc : Int32) (vs : List Value) (h0 : Heap) (n0 : Nat) (v : Option Value) (h : Heap) (L : List Loc) : Prop := v = none ∧ Fr n0 L ∧ (h = h0)
set_option maxRecDepth 65536 in
set_option maxHeartbeats 40000000 in
theorem ensCap (l : Launch) (Z : State) (a0 : Array Value) (hw : ∀ d ∈ tables_1, d.before a0 Z = true) (ws : List Jvm.Cond) (a1 : Addr) (p2 : Int32) (t : Addr) (k : ClassId) (zc : Int32) (vs : List Value) (h0 : Heap) (n0 : Nat) (Z0 : n0 ≤ h0.size) (Fv : Fld Z h0 a1 "java/lang/AbstractStringBuilder" "value" "[B" (.ref t)) (Fc : Fld Z h0 a1 "java/lang/AbstractStringBuilder" "coder" "B" (.int (0 : Int32))) (V : Arv Z h0 t k .byte zc vs (.int 0)) (hle : ¬ ((0 : Int32) < (p2 - zc))) :
    MetFree l (⟨"java/lang/AbstractStringBuilder", "ensureCapacityInternal", "(I)V"⟩ : MethodName) (head1 (Jvm.Cond.code (⟨"java/lang/AbstractStringBuilder", "ensureCapacityInternal", "(I)V"⟩ : MethodName) jdk_68_method_9_code 3 none :: ws) ({ frames := 0, cells := 0, slots := 0, locals := 0 } : Room)) (fun a U => a = #[(.ref a1), (.int p2)] ∧ Z.Warmed39 U.vm ∧ U.heap = h0) (fun _ _ _ _ _ => True) (fun _ U o U' => ∃ v L, o = .returned v ∧ Q_ensCap Z a1 p2 t k zc vs h0 n0 v U'.heap L ∧ FrameEnd U o U' L ({ frames := 0, cells := 0, slots := 0, locals := 0 } : Room).cells ({ frames := 0, cells := 0, slots := 0, locals := 0 } : Room).slots) := by
  refine MetFree.of_bodySF (plainFor_of_name pn_java_lang_AbstractStringBuilder) hisR ?_
  intro p e s m args below meth c s₁ Bd hml0 hP hK
  obtain ⟨rfl, hZ, hh⟩ := hP
  have hx := Bd.exec
  have hby := Bd.bytes
  have hml : c.maxLocals = 3 := hml0
  have hown : s.vm.findClass "java/lang/AbstractStringBuilder" = some m.cls := findClass_of_methodNamed Bd.named
  have hnm := (name_of_methodNamed Bd.named Bd.method).1
  have hret : meth.sig.returnType = none := Bd.returns
  have hlk : meth.locks = false := BodyLoose.notSynchronized Bd
  have X0 : Stand p l e ({ frames := 0, cells := 0, slots := 0, locals := 0 } : Room) s m #[(.ref a1), (.int p2)] below meth c s₁ [] 0 0 := Stand.of_body Bd
  have e0 : s₁.heap = h0 := by rw [← hh, Bd.state]; rfl
  have N0 := Fr.nil n0
  have K0 : Keep h0 h0 [] := Keep.refl h0 _
  show Gl p.tables e below s (Q_ensCap Z a1 p2 t k zc vs h0 n0) 0 0 _
  refine Gl.pre (B := s₁.setTop (mkF m 0 #[.val (.ref a1), .val (.int p2), .unset] [])) (fun _ k => castTop (ef_ensCap m a1 p2) k) ?_
  refine Gl.pre (B := s₁.setTop (mkF m 1 #[.val (.ref a1), .val (.int p2), .unset] [(.ref a1)])) (fun _ k => XS.aloadN X0.here hx rfl (hb hby d9_0) rfl rfl k) ?_
  obtain ⟨T1, X1, e1, st1⟩ := getF X0 hx hZ hown (host := "") (Or.inl (wq hw 25 rfl)) Via.refl e0 Fv (g := (mkF m 1 #[.val (.ref a1), .val (.int p2), .unset] [(.ref a1)])) rfl rfl (hb hby d9_1)
  refine Gl.pre (B := T1.setTop (mkF m 4 #[.val (.ref a1), .val (.int p2), .unset] [(.ref t)])) (fun _ k => st1 _ k) ?_
  obtain ⟨cl2, Ar2, -, Sz2, Nn2, -, -⟩ := id V
  refine Gl.pre (B := T1.setTop (mkF m 5 #[.val (.ref a1), .val (.int p2), .unset] [(.int zc)])) (fun _ k => ?_) ?_
  · refine X1.arraylength hx (by rw [e1]; exact Ar2.1) (State.isArrayOf_alike hZ.alike Ar2.2.1) (g := (mkF m 4 #[.val (.ref a1), .val (.int p2), .unset] [(.ref t)])) rfl rfl (hb hby d9_4) _ ?_
    rw [len_of Sz2 Nn2]
    exact k
  refine Gl.pre (B := T1.setTop (mkF m 6 #[.val (.ref a1), .val (.int p2), .unset] [(.ref a1), (.int zc)])) (fun _ k => XS.aloadN X1.here hx rfl (hb hby d9_5) rfl rfl k) ?_
  obtain ⟨T3, X3, e3, st3⟩ := getF X1 hx hZ hown (host := "") (Or.inl (wq hw 27 rfl)) Via.refl e1 Fc (g := (mkF m 6 #[.val (.ref a1), .val (.int p2), .unset] [(.ref a1), (.int zc)])) rfl rfl (hb hby d9_6)
  refine Gl.pre (B := T3.setTop (mkF m 10 #[.val (.ref a1), .val (.int p2), .unset] [(.int (zc >>> ((0 : Int32) &&& 31)))])) (fun _ k => st3 _ (XS.ishr X3.here hx rfl (hb hby d9_9) rfl k)) ?_
  rw [own_shr0]
  refine Gl.pre (B := T3.setTop (mkF m 38 #[.val (.ref a1), .val (.int p2), .val (.int zc)] [])) (fun _ k => XS.istoreN X3.here hx rfl (hb hby d9_10) rfl (l' := #[.val (.ref a1), .val (.int p2), .val (.int zc)]) rfl (XS.iloadN X3.here hx rfl (hb hby d9_11) rfl (XS.iloadN X3.here hx rfl (hb hby d9_12) rfl (XS.isub X3.here hx rfl (hb hby d9_13) rfl (XS.ifYes X3.here hx rfl (pc0 := 14) (pc' := 38) rfl (hb hby d9_14) rfl ((if0 _ _).trans (flt (hle : ¬ ((0 : Int32) < (p2 - zc)))).2.2.2) (by decide) (by decide) k))))) ?_
  refine Gl.out X3 (v := none) (fun _ => rfl) hlk (fun fs hr => X3.returnOut hx hret (hb hby d9_38) hr) ?_ (by decide) (by decide)
  show Q_ensCap Z _ _ _ _ _ _ h0 n0 _ T3.heap _
  rw [e3]
  exact ⟨rfl, N0, rfl⟩
theorem d11_0 : decode jdk_68_method_71_code 0 = .ok (.getstatic 18, 3) := by decide +kernel
theorem d11_3 : decode jdk_68_method_71_code 3 = .ok (.ifCond .eq 18, 3) := by decide +kernel
theorem d11_6 : decode jdk_68_method_71_code 6 = .ok (.aload_n 0, 1) := by decide +kernel
theorem d11_7 : decode jdk_68_method_71_code 7 = .ok (.getfield 22, 3) := by decide +kernel
theorem d11_10 : decode jdk_68_method_71_code 10 = .ok (.aload_n 1, 1) := by decide +kernel
theorem d11_11 : decode jdk_68_method_71_code 11 = .ok (.invokevirtual 40, 3) := by decide +kernel
theorem d11_14 : decode jdk_68_method_71_code 14 = .ok (.if_icmp .eq 7, 3) := by decide +kernel
theorem d11_21 : decode jdk_68_method_71_code 21 = .ok (.return_, 1) := by decide +kernel
theorem ef_inflate (m : MethodId) (x0 : Addr) (x1 : Addr) : entryFrame m #[(.ref x0), (.ref x1)] 2 = mkF m 0 #[.val (.ref x0), .val (.ref x1)] [] := by first | (simp [entryFrame, mkF, argsToLocals, Value.category]; done) | rfl
def Q_inflate (Z : State) (a1 : Addr) (a2 : Addr) (G1 : Int32) (h0 : Heap) (n0 : Nat) (v : Option Value) (h : Heap) (L : List Loc) : Prop := v = none ∧ Fr n0 L ∧ (h = h0)
set_option maxRecDepth 65536 in
set_option maxHeartbeats 40000000 in
theorem inflate (l : Launch) (Z : State) (a0 : Array Value) (hw : ∀ d ∈ tables_1, d.before a0 Z = true) (ws : List Jvm.Cond) (a1 : Addr) (a2 : Addr) (G1 : Int32) (h0 : Heap) (n0 : Nat) (Z0 : n0 ≤ h0.size) (Fc : Fld Z h0 a1 "java/lang/AbstractStringBuilder" "coder" "B" (.int (0 : Int32))) (E2 : Exa Z h0 a2 "java/lang/String") (Fc2 : Fld Z h0 a2 "java/lang/String" "coder" "B" (.int 0)) (O2 : Sta Z Z.heap "java/lang/String" "COMPACT_STRINGS" "Z" (.int G1)) (P5 : ¬ (G1 = (0 : Int32))) (Od : Old Z n0 h0) :
    MetFree l (⟨"java/lang/AbstractStringBuilder", "inflateIfNeededFor", "(Ljava/lang/String;)V"⟩ : MethodName) (head1 (Jvm.Cond.code (⟨"java/lang/AbstractStringBuilder", "inflateIfNeededFor", "(Ljava/lang/String;)V"⟩ : MethodName) jdk_68_method_71_code 2 none :: ws) ({ frames := 1, cells := 0, slots := 0, locals := 13 } : Room)) (fun a U => a = #[(.ref a1), (.ref a2)] ∧ Z.Warmed39 U.vm ∧ U.heap = h0) (fun _ _ _ _ _ => True) (fun _ U o U' => ∃ v L, o = .returned v ∧ Q_inflate Z a1 a2 G1 h0 n0 v U'.heap L ∧ FrameEnd U o U' L ({ frames := 1, cells := 0, slots := 0, locals := 13 } : Room).cells ({ frames := 1, cells := 0, slots := 0, locals := 13 } : Room).slots) := by
  refine MetFree.of_bodySF (plainFor_of_name pn_java_lang_AbstractStringBuilder) hisR ?_
  intro p e s m args below meth c s₁ Bd hml0 hP hK
  obtain ⟨rfl, hZ, hh⟩ := hP
  have hx := Bd.exec
  have hby := Bd.bytes
  have hml : c.maxLocals = 2 := hml0
  have hown : s.vm.findClass "java/lang/AbstractStringBuilder" = some m.cls := findClass_of_methodNamed Bd.named
  have hnm := (name_of_methodNamed Bd.named Bd.method).1
  have hret : meth.sig.returnType = none := Bd.returns
  have hlk : meth.locks = false := BodyLoose.notSynchronized Bd
  have X0 : Stand p l e ({ frames := 1, cells := 0, slots := 0, locals := 13 } : Room) s m #[(.ref a1), (.ref a2)] below meth c s₁ [] 0 0 := Stand.of_body Bd
  have e0 : s₁.heap = h0 := by rw [← hh, Bd.state]; rfl
  have N0 := Fr.nil n0
  have K0 : Keep h0 h0 [] := Keep.refl h0 _
  show Gl p.tables e below s (Q_inflate Z a1 a2 G1 h0 n0) 0 0 _
  refine Gl.pre (B := s₁.setTop (mkF m 0 #[.val (.ref a1), .val (.ref a2)] [])) (fun _ k => castTop (ef_inflate m a1 a2) k) ?_
  obtain ⟨T1, X1, e1, st1⟩ := getS2 X0 hx hZ hown (host := "") (Or.inl (wq hw 22 rfl)) Via.refl e0 (O2.ext Od.2) (g := (mkF m 0 #[.val (.ref a1), .val (.ref a2)] [])) rfl (hb hby d11_0)
  refine Gl.pre (B := T1.setTop (mkF m 7 #[.val (.ref a1), .val (.ref a2)] [(.ref a1)])) (fun _ k => st1 _ (XS.ifNo X1.here hx rfl (hb hby d11_3) rfl ((if0 _ _).trans (feq (P5 : ¬ (G1 = (0 : Int32)))).1) (XS.aloadN X1.here hx rfl (hb hby d11_6) rfl rfl k))) ?_
  obtain ⟨T2, X2, e2, st2⟩ := getF X1 hx hZ hown (host := "") (Or.inl (wq hw 27 rfl)) Via.refl e1 Fc (g := (mkF m 7 #[.val (.ref a1), .val (.ref a2)] [(.ref a1)])) rfl rfl (hb hby d11_7)
  refine Gl.pre (B := T2.setTop (mkF m 11 #[.val (.ref a1), .val (.ref a2)] [(.ref a2), (.int (0 : Int32))])) (fun _ k => st2 _ (XS.aloadN X2.here hx rfl (hb hby d11_10) rfl rfl k)) ?_
  obtain ⟨cq3, kq3, q3a, q3b, q3c⟩ := isOf hZ e2 E2
  obtain ⟨rv3, _, ⟨T3, L3, k3, n3⟩, -, X3, ⟨Lc3, hQ3, l3, y3, z3⟩, st3⟩ := X2.virtualBack hx (y := (⟨"java/lang/String", "coder", "()B"⟩ : MethodName)) (z := (⟨"java/lang/String", "coder", "()B"⟩ : MethodName)) hown (mvT hZ (wq hw 75 rfl)) (mvT hZ (wq hw 52 rfl)) (notFace_of_selects (args := #[]) (mvT hZ (wq hw 54 rfl))) (mvT hZ (wq hw 54 rfl)) (mvT hZ (wq hw 53 rfl)) (by decide) (backOf (W := 1) (strCoder l Z a0 hw [] a2 G1 h0 n0 Z0 Fc2 O2 P5 Od) hZ (wq hw 55 rfl) (wq hw 23 rfl) (by decide) (by decide)) q3a q3c (g := (mkF m 11 #[.val (.ref a1), .val (.ref a2)] [(.ref a2), (.int (0 : Int32))])) rfl (by rw [hml]; rfl) (Steps.refl _) (argsL := []) (rest := [(.int (0 : Int32))]) (lenOf pd_2 rfl) rfl (by show 2 * 0 + _ ≤ _; exact Nat.le_of_eq rfl) (hb hby d11_11) (fun _ _ => ⟨rfl, e2, (by decide : 0 + 0 ≤ _), (by decide : 0 + 0 ≤ _)⟩)
  dsimp only [Pt.U, Pt.locs, Pt.cells, Pt.slots] at X3 l3 y3 z3 st3 hQ3
  have X3 := own_reb X3 l3 y3 z3
  obtain ⟨rfl, N3q, e3⟩ := hQ3
  have N3 := Fr.app N0 N3q
  refine Gl.pre (B := T3.setTop (mkF m 21 #[.val (.ref a1), .val (.ref a2)] [])) (fun _ k => st3.trans (XS.icmpYes X3.here hx rfl (pc0 := 14) (pc' := 21) rfl (hb hby d11_14) rfl (teq (by decide : (0 : Int32) = 0)).1 (by decide) (by decide) k)) ?_
  refine Gl.out X3 (v := none) (fun _ => rfl) hlk (fun fs hr => X3.returnOut hx hret (hb hby d11_21) hr) ?_ (by decide) (by decide)
  show Q_inflate Z _ _ _ h0 n0 _ T3.heap _
  rw [e3]
  exact ⟨rfl, N3, rfl⟩
theorem d12_0 : decode jdk_42_method_147_code 0 = .ok (.aload_n 0, 1) := by decide +kernel
theorem d12_1 : decode jdk_42_method_147_code 1 = .ok (.invokevirtual 335, 3) := by decide +kernel
theorem d12_4 : decode jdk_42_method_147_code 4 = .ok (.iload_n 3, 1) := by decide +kernel
theorem d12_5 : decode jdk_42_method_147_code 5 = .ok (.if_icmp .ne 23, 3) := by decide +kernel
theorem d12_8 : decode jdk_42_method_147_code 8 = .ok (.aload_n 0, 1) := by decide +kernel
theorem d12_9 : decode jdk_42_method_147_code 9 = .ok (.getfield 9, 3) := by decide +kernel
theorem d12_12 : decode jdk_42_method_147_code 12 = .ok (.iconst 0, 1) := by decide +kernel
theorem d12_13 : decode jdk_42_method_147_code 13 = .ok (.aload_n 1, 1) := by decide +kernel
theorem d12_14 : decode jdk_42_method_147_code 14 = .ok (.iload_n 2, 1) := by decide +kernel
theorem d12_15 : decode jdk_42_method_147_code 15 = .ok (.iload_n 3, 1) := by decide +kernel
theorem d12_16 : decode jdk_42_method_147_code 16 = .ok (.ishl, 1) := by decide +kernel
theorem d12_17 : decode jdk_42_method_147_code 17 = .ok (.aload_n 0, 1) := by decide +kernel
theorem d12_18 : decode jdk_42_method_147_code 18 = .ok (.getfield 9, 3) := by decide +kernel
theorem d12_21 : decode jdk_42_method_147_code 21 = .ok (.arraylength, 1) := by decide +kernel
theorem d12_22 : decode jdk_42_method_147_code 22 = .ok (.invokestatic 212, 3) := by decide +kernel
theorem d12_25 : decode jdk_42_method_147_code 25 = .ok (.goto 18, 3) := by decide +kernel
theorem d12_43 : decode jdk_42_method_147_code 43 = .ok (.return_, 1) := by decide +kernel
theorem ef_getBy (m : MethodId) (x0 : Addr) (x1 : Addr) (x2 : Int32) (x3 : Int32) : entryFrame m #[(.ref x0), (.ref x1), (.int x2), (.int x3)] 4 = mkF m 0 #[.val (.ref x0), .val (.ref x1), .val (.int x2), .val (.int x3)] [] := by first | (simp [entryFrame, mkF, argsToLocals, Value.category]; done) | rfl
def Q_getBy (Z : State) (a1 : Addr) (a2 : Addr) (p3 : Int32) (k : ClassId) (cap : Nat) (cs : List Int32) (t2 : Addr) (k2 : ClassId) (ds : List Int32) (G1 : Int32) (h0 : Heap) (n0 : Nat) (v : Option Value) (h : Heap) (L : List Loc) : Prop := v = none ∧ Fr n0 L ∧ (Keep h0 h [a2]) ∧ (Arv Z h a2 k .byte (Int32.ofNat cap) (byt (cs ++ ds) ++ List.replicate (cap - (cs ++ ds).length) (.int 0)) (.int 0))
set_option maxRecDepth 65536 in
set_option maxHeartbeats 40000000 in
theorem getBy (l : Launch) (Z : State) (a0 : Array Value) (hw : ∀ d ∈ tables_1, d.before a0 Z = true) (ws : List Jvm.Cond) (a1 : Addr) (a2 : Addr) (p3 : Int32) (k : ClassId) (cap : Nat) (cs : List Int32) (t2 : Addr) (k2 : ClassId) (ds : List Int32) (G1 : Int32) (h0 : Heap) (n0 : Nat) (Z0 : n0 ≤ h0.size) (sv : StrV Z h0 a1 t2 k2 ds) (V_a2 : Arv Z h0 a2 k .byte (Int32.ofNat cap) (byt cs ++ List.replicate (cap - cs.length) (.int 0)) (.int 0)) (g_a2 : n0 ≤ a2) (hr : cs.length + ds.length ≤ cap) (hcap : cap ≤ 1000) (hp3 : p3 = Int32.ofNat cs.length) (O2 : Sta Z Z.heap "java/lang/String" "COMPACT_STRINGS" "Z" (.int G1)) (P5 : ¬ (G1 = (0 : Int32))) (Od : Old Z n0 h0) :
    MetFree l (⟨"java/lang/String", "getBytes", "([BIB)V"⟩ : MethodName) (head1 (Jvm.Cond.code (⟨"java/lang/String", "getBytes", "([BIB)V"⟩ : MethodName) jdk_42_method_147_code 4 none :: ws) ({ frames := 1, cells := 0, slots := 0, locals := 40 } : Room)) (fun a U => a = #[(.ref a1), (.ref a2), (.int p3), (.int (0 : Int32))] ∧ Z.Warmed39 U.vm ∧ U.heap = h0) (fun _ _ _ _ _ => True) (fun _ U o U' => ∃ v L, o = .returned v ∧ Q_getBy Z a1 a2 p3 k cap cs t2 k2 ds G1 h0 n0 v U'.heap L ∧ FrameEnd U o U' L ({ frames := 1, cells := 0, slots := 0, locals := 40 } : Room).cells ({ frames := 1, cells := 0, slots := 0, locals := 40 } : Room).slots) := by
  refine MetFree.of_bodySF (plainFor_of_name pn_java_lang_String) hisR ?_
  intro p e s m args below meth c s₁ Bd hml0 hP hK
  obtain ⟨rfl, hZ, hh⟩ := hP
  have hx := Bd.exec
  have hby := Bd.bytes
  have hml : c.maxLocals = 4 := hml0
  have hown : s.vm.findClass "java/lang/String" = some m.cls := findClass_of_methodNamed Bd.named
  have hnm := (name_of_methodNamed Bd.named Bd.method).1
  have hret : meth.sig.returnType = none := Bd.returns
  have hlk : meth.locks = false := BodyLoose.notSynchronized Bd
  have X0 : Stand p l e ({ frames := 1, cells := 0, slots := 0, locals := 40 } : Room) s m #[(.ref a1), (.ref a2), (.int p3), (.int (0 : Int32))] below meth c s₁ [] 0 0 := Stand.of_body Bd
  have e0 : s₁.heap = h0 := by rw [← hh, Bd.state]; rfl
  have N0 := Fr.nil n0
  have K0 : Keep h0 h0 [a2] := Keep.refl h0 _
  show Gl p.tables e below s (Q_getBy Z a1 a2 p3 k cap cs t2 k2 ds G1 h0 n0) 0 0 _
  refine Gl.pre (B := s₁.setTop (mkF m 0 #[.val (.ref a1), .val (.ref a2), .val (.int p3), .val (.int (0 : Int32))] [])) (fun _ k => castTop (ef_getBy m a1 a2 p3 (0 : Int32)) k) ?_
  obtain ⟨E_a1, Fv_a1, Fc_a1, V_a1, hb_a1, hl_a1⟩ := sv
  refine Gl.pre (B := s₁.setTop (mkF m 1 #[.val (.ref a1), .val (.ref a2), .val (.int p3), .val (.int (0 : Int32))] [(.ref a1)])) (fun _ k => XS.aloadN X0.here hx rfl (hb hby d12_0) rfl rfl k) ?_
  obtain ⟨cq1, kq1, q1a, q1b, q1c⟩ := isOf hZ e0 E_a1
  obtain ⟨rv1, _, ⟨T1, L1, k1, n1⟩, -, X1, ⟨Lc1, hQ1, l1, y1, z1⟩, st1⟩ := X0.virtualBack hx (y := (⟨"java/lang/String", "coder", "()B"⟩ : MethodName)) (z := (⟨"java/lang/String", "coder", "()B"⟩ : MethodName)) hown (mvT hZ (wq hw 51 rfl)) (mvT hZ (wq hw 52 rfl)) (notFace_of_selects (args := #[]) (mvT hZ (wq hw 54 rfl))) (mvT hZ (wq hw 54 rfl)) (mvT hZ (wq hw 53 rfl)) (by decide) (backOf (W := 0) (strCoder l Z a0 hw [] a1 G1 h0 n0 Z0 Fc_a1 O2 P5 Od) hZ (wq hw 55 rfl) (wq hw 23 rfl) (by decide) (by decide)) q1a q1c (g := (mkF m 1 #[.val (.ref a1), .val (.ref a2), .val (.int p3), .val (.int (0 : Int32))] [(.ref a1)])) rfl (by rw [hml]; rfl) (Steps.refl _) (argsL := []) (rest := []) (lenOf pd_2 rfl) rfl (by show 2 * 0 + _ ≤ _; exact Nat.le_of_eq rfl) (hb hby d12_1) (fun _ _ => ⟨rfl, e0, (by decide : 0 + 0 ≤ _), (by decide : 0 + 0 ≤ _)⟩)
  dsimp only [Pt.U, Pt.locs, Pt.cells, Pt.slots] at X1 l1 y1 z1 st1 hQ1
  have X1 := own_reb X1 l1 y1 z1
  obtain ⟨rfl, N1q, e1⟩ := hQ1
  have N1 := Fr.app N0 N1q
  refine Gl.pre (B := T1.setTop (mkF m 9 #[.val (.ref a1), .val (.ref a2), .val (.int p3), .val (.int (0 : Int32))] [(.ref a1)])) (fun _ k => st1.trans (XS.iloadN X1.here hx rfl (hb hby d12_4) rfl (XS.icmpNo X1.here hx rfl (hb hby d12_5) rfl (teq (by decide : (0 : Int32) = (0 : Int32))).2 (XS.aloadN X1.here hx rfl (hb hby d12_8) rfl rfl k)))) ?_
  obtain ⟨T2, X2, e2, st2⟩ := getF X1 hx hZ hown (host := "") (Or.inl (wq hw 50 rfl)) Via.refl e1 Fv_a1 (g := (mkF m 9 #[.val (.ref a1), .val (.ref a2), .val (.int p3), .val (.int (0 : Int32))] [(.ref a1)])) rfl rfl (hb hby d12_9)
  refine Gl.pre (B := T2.setTop (mkF m 17 #[.val (.ref a1), .val (.ref a2), .val (.int p3), .val (.int (0 : Int32))] [(.int (p3 <<< ((0 : Int32) &&& 31))), (.ref a2), (.int (0 : Int32)), (.ref t2)])) (fun _ k => st2 _ (XS.iconst X2.here hx rfl (hb hby d12_12) (XS.aloadN X2.here hx rfl (hb hby d12_13) rfl rfl (XS.iloadN X2.here hx rfl (hb hby d12_14) rfl (XS.iloadN X2.here hx rfl (hb hby d12_15) rfl (XS.ishl X2.here hx rfl (hb hby d12_16) rfl k)))))) ?_
  rw [own_shl0]
  refine Gl.pre (B := T2.setTop (mkF m 18 #[.val (.ref a1), .val (.ref a2), .val (.int p3), .val (.int (0 : Int32))] [(.ref a1), (.int p3), (.ref a2), (.int (0 : Int32)), (.ref t2)])) (fun _ k => XS.aloadN X2.here hx rfl (hb hby d12_17) rfl rfl k) ?_
  obtain ⟨T3, X3, e3, st3⟩ := getF X2 hx hZ hown (host := "") (Or.inl (wq hw 50 rfl)) Via.refl e2 Fv_a1 (g := (mkF m 18 #[.val (.ref a1), .val (.ref a2), .val (.int p3), .val (.int (0 : Int32))] [(.ref a1), (.int p3), (.ref a2), (.int (0 : Int32)), (.ref t2)])) rfl rfl (hb hby d12_18)
  refine Gl.pre (B := T3.setTop (mkF m 21 #[.val (.ref a1), .val (.ref a2), .val (.int p3), .val (.int (0 : Int32))] [(.ref t2), (.int p3), (.ref a2), (.int (0 : Int32)), (.ref t2)])) (fun _ k => st3 _ k) ?_
  obtain ⟨cl4, Ar4, -, Sz4, Nn4, -, -⟩ := id V_a1
  refine Gl.pre (B := T3.setTop (mkF m 22 #[.val (.ref a1), .val (.ref a2), .val (.int p3), .val (.int (0 : Int32))] [(.int (Int32.ofNat ds.length)), (.int p3), (.ref a2), (.int (0 : Int32)), (.ref t2)])) (fun _ k => ?_) ?_
  · refine X3.arraylength hx (by rw [e3]; exact Ar4.1) (State.isArrayOf_alike hZ.alike Ar4.2.1) (g := (mkF m 21 #[.val (.ref a1), .val (.ref a2), .val (.int p3), .val (.int (0 : Int32))] [(.ref t2), (.int p3), (.ref a2), (.int (0 : Int32)), (.ref t2)])) rfl rfl (hb hby d12_21) _ ?_
    rw [len_of Sz4 Nn4]
    exact k
  obtain ⟨T5, h5, L5, X5, e5, N5, K5, V5, st5⟩ := cpA X3 hx hZ hown (wq hw 81 rfl) (wq hw 84 rfl) (wq hw 82 rfl) (wq hw 83 rfl) e3 V_a1 V_a2 (Or.inl ⟨rfl, rfl⟩) (us := (byt ds)) (by decide) (by rw [hp3]; exact own_nn (by omega)) (own_nn (by omega)) (by rw [own_n32 (by omega)]; exact Nat.le_of_eq (Nat.zero_add _)) (by rw [hp3, own_n32 (by omega), own_n32 (by omega), own_n32 (by omega)]; omega) (own_us _ _ (by rw [own_n32 (by omega), byt_len])) (by rw [hp3, own_n32 (by omega), own_n32 (by omega), List.length_append, byt_len, List.length_replicate]; omega) N1 g_a2 (g := (mkF m 22 #[.val (.ref a1), .val (.ref a2), .val (.int p3), .val (.int (0 : Int32))] [(.int (Int32.ofNat ds.length)), (.int p3), (.ref a2), (.int (0 : Int32)), (.ref t2)])) rfl (by rw [hml]; rfl) rfl (hb hby d12_22) (by decide) (W := 0) (by show 2 * 0 + _ ≤ _; exact Nat.le_of_eq rfl) (by decide)
  have K0 := K0.trans K5 (allS (Or.inl (List.mem_of_getElem? (i := 0) rfl)) all0)
  have V_a2 : Arv Z h5 a2 k .byte (Int32.ofNat cap) (byt (cs ++ ds) ++ List.replicate (cap - (cs ++ ds).length) (.int 0)) (.int 0) := (by have q := V5; rw [hp3, own_n32 (by omega), own_n32 (by omega), sb_cat hr] at q; exact q)
  refine Gl.pre (B := T5.setTop (mkF m 43 #[.val (.ref a1), .val (.ref a2), .val (.int p3), .val (.int (0 : Int32))] [])) (fun _ k => st5 _ (XS.goto X5.here hx rfl (pc0 := 25) (pc' := 43) rfl (hb hby d12_25) (by decide) (by decide) k)) ?_
  refine Gl.out X5 (v := none) (fun _ => rfl) hlk (fun fs hr => X5.returnOut hx hret (hb hby d12_43) hr) ?_ (by decide) (by decide)
  show Q_getBy Z _ _ _ _ _ _ _ _ _ _ h0 n0 _ T5.heap _
  rw [e5]
  exact ⟨rfl, N5, K0, V_a2⟩
theorem pd_4 : parseMethodDescriptor "([BIB)V" = some ⟨[(.array .byte), .int, .byte], none⟩ := by decide +kernel
theorem d10_0 : decode jdk_68_method_73_code 0 = .ok (.aload_n 0, 1) := by decide +kernel
theorem d10_1 : decode jdk_68_method_73_code 1 = .ok (.aload_n 2, 1) := by decide +kernel
theorem d10_2 : decode jdk_68_method_73_code 2 = .ok (.invokevirtual 397, 3) := by decide +kernel
theorem d10_5 : decode jdk_68_method_73_code 5 = .ok (.aload_n 2, 1) := by decide +kernel
theorem d10_6 : decode jdk_68_method_73_code 6 = .ok (.aload_n 0, 1) := by decide +kernel
theorem d10_7 : decode jdk_68_method_73_code 7 = .ok (.getfield 15, 3) := by decide +kernel
theorem d10_10 : decode jdk_68_method_73_code 10 = .ok (.iload_n 1, 1) := by decide +kernel
theorem d10_11 : decode jdk_68_method_73_code 11 = .ok (.aload_n 0, 1) := by decide +kernel
theorem d10_12 : decode jdk_68_method_73_code 12 = .ok (.getfield 22, 3) := by decide +kernel
theorem d10_15 : decode jdk_68_method_73_code 15 = .ok (.invokevirtual 399, 3) := by decide +kernel
theorem d10_18 : decode jdk_68_method_73_code 18 = .ok (.return_, 1) := by decide +kernel
theorem ef_putAt (m : MethodId) (x0 : Addr) (x1 : Int32) (x2 : Addr) : entryFrame m #[(.ref x0), (.int x1), (.ref x2)] 3 = mkF m 0 #[.val (.ref x0), .val (.int x1), .val (.ref x2)] [] := by first | (simp [entryFrame, mkF, argsToLocals, Value.category]; done) | rfl
def Q_putAt (Z : State) (a1 : Addr) (p3 : Int32) (a2 : Addr) (t : Addr) (k : ClassId) (cap : Nat) (cs : List Int32) (t2 : Addr) (k2 : ClassId) (ds : List Int32) (G1 : Int32) (h0 : Heap) (n0 : Nat) (v : Option Value) (h : Heap) (L : List Loc) : Prop := v = none ∧ Fr n0 L ∧ (Keep h0 h [t]) ∧ (Arv Z h t k .byte (Int32.ofNat cap) (byt (cs ++ ds) ++ List.replicate (cap - (cs ++ ds).length) (.int 0)) (.int 0))
set_option maxRecDepth 65536 in
set_option maxHeartbeats 40000000 in
theorem putAt (l : Launch) (Z : State) (a0 : Array Value) (hw : ∀ d ∈ tables_1, d.before a0 Z = true) (ws : List Jvm.Cond) (a1 : Addr) (p3 : Int32) (a2 : Addr) (t : Addr) (k : ClassId) (cap : Nat) (cs : List Int32) (t2 : Addr) (k2 : ClassId) (ds : List Int32) (G1 : Int32) (h0 : Heap) (n0 : Nat) (Z0 : n0 ≤ h0.size) (E_a1 : Exa Z h0 a1 "java/lang/StringBuilder") (Fv : Fld Z h0 a1 "java/lang/AbstractStringBuilder" "value" "[B" (.ref t)) (Fc : Fld Z h0 a1 "java/lang/AbstractStringBuilder" "coder" "B" (.int (0 : Int32))) (sv : StrV Z h0 a2 t2 k2 ds) (V_t : Arv Z h0 t k .byte (Int32.ofNat cap) (byt cs ++ List.replicate (cap - cs.length) (.int 0)) (.int 0)) (g_t : n0 ≤ t) (hr : cs.length + ds.length ≤ cap) (hcap : cap ≤ 1000) (hp3 : p3 = Int32.ofNat cs.length) (O2 : Sta Z Z.heap "java/lang/String" "COMPACT_STRINGS" "Z" (.int G1)) (P5 : ¬ (G1 = (0 : Int32))) (Od : Old Z n0 h0) :
    MetFree l (⟨"java/lang/AbstractStringBuilder", "putStringAt", "(ILjava/lang/String;)V"⟩ : MethodName) (head1 (Jvm.Cond.code (⟨"java/lang/AbstractStringBuilder", "putStringAt", "(ILjava/lang/String;)V"⟩ : MethodName) jdk_68_method_73_code 3 none :: ws) ({ frames := 2, cells := 0, slots := 0, locals := 55 } : Room)) (fun a U => a = #[(.ref a1), (.int p3), (.ref a2)] ∧ Z.Warmed39 U.vm ∧ U.heap = h0) (fun _ _ _ _ _ => True) (fun _ U o U' => ∃ v L, o = .returned v ∧ Q_putAt Z a1 p3 a2 t k cap cs t2 k2 ds G1 h0 n0 v U'.heap L ∧ FrameEnd U o U' L ({ frames := 2, cells := 0, slots := 0, locals := 55 } : Room).cells ({ frames := 2, cells := 0, slots := 0, locals := 55 } : Room).slots) := by
  refine MetFree.of_bodySF (plainFor_of_name pn_java_lang_AbstractStringBuilder) hisR ?_
  intro p e s m args below meth c s₁ Bd hml0 hP hK
  obtain ⟨rfl, hZ, hh⟩ := hP
  have hx := Bd.exec
  have hby := Bd.bytes
  have hml : c.maxLocals = 3 := hml0
  have hown : s.vm.findClass "java/lang/AbstractStringBuilder" = some m.cls := findClass_of_methodNamed Bd.named
  have hnm := (name_of_methodNamed Bd.named Bd.method).1
  have hret : meth.sig.returnType = none := Bd.returns
  have hlk : meth.locks = false := BodyLoose.notSynchronized Bd
  have X0 : Stand p l e ({ frames := 2, cells := 0, slots := 0, locals := 55 } : Room) s m #[(.ref a1), (.int p3), (.ref a2)] below meth c s₁ [] 0 0 := Stand.of_body Bd
  have e0 : s₁.heap = h0 := by rw [← hh, Bd.state]; rfl
  have N0 := Fr.nil n0
  have K0 : Keep h0 h0 [t] := Keep.refl h0 _
  show Gl p.tables e below s (Q_putAt Z a1 p3 a2 t k cap cs t2 k2 ds G1 h0 n0) 0 0 _
  refine Gl.pre (B := s₁.setTop (mkF m 0 #[.val (.ref a1), .val (.int p3), .val (.ref a2)] [])) (fun _ k => castTop (ef_putAt m a1 p3 a2) k) ?_
  obtain ⟨E_a2, Fv_a2, Fc_a2, V_a2, hb_a2, hl_a2⟩ := id sv
  refine Gl.pre (B := s₁.setTop (mkF m 2 #[.val (.ref a1), .val (.int p3), .val (.ref a2)] [(.ref a2), (.ref a1)])) (fun _ k => XS.aloadN X0.here hx rfl (hb hby d10_0) rfl rfl (XS.aloadN X0.here hx rfl (hb hby d10_1) rfl rfl k)) ?_
  obtain ⟨cq1, kq1, q1a, q1b, q1c⟩ := isOf hZ e0 E_a1
  obtain ⟨rv1, _, ⟨T1, L1, k1, n1⟩, -, X1, ⟨Lc1, hQ1, l1, y1, z1⟩, st1⟩ := X0.virtualBack hx (y := (⟨"java/lang/AbstractStringBuilder", "inflateIfNeededFor", "(Ljava/lang/String;)V"⟩ : MethodName)) (z := (⟨"java/lang/AbstractStringBuilder", "inflateIfNeededFor", "(Ljava/lang/String;)V"⟩ : MethodName)) hown (mvT hZ (wq hw 70 rfl)) (mvT hZ (own_declares (wq hw 71 rfl) (wq hw 74 rfl))) (notFace_of_selects (args := #[]) (mvT hZ (wq hw 73 rfl))) (mvT hZ (wq hw 73 rfl)) (mvT hZ (wq hw 71 rfl)) (by decide) (backOf (W := 0) (inflate l Z a0 hw [] a1 a2 G1 h0 n0 Z0 Fc E_a2 Fc_a2 O2 P5 Od) hZ (wq hw 74 rfl) (wq hw 17 rfl) (by decide) (by decide)) q1a q1c (g := (mkF m 2 #[.val (.ref a1), .val (.int p3), .val (.ref a2)] [(.ref a2), (.ref a1)])) rfl (by rw [hml]; rfl) (Steps.refl _) (argsL := [(.ref a2)]) (rest := []) (lenOf pd_1 rfl) rfl (by show 2 * 0 + _ ≤ _; exact Nat.le_of_eq rfl) (hb hby d10_2) (fun _ _ => ⟨rfl, e0, (by decide : 0 + 0 ≤ _), (by decide : 0 + 0 ≤ _)⟩)
  dsimp only [Pt.U, Pt.locs, Pt.cells, Pt.slots] at X1 l1 y1 z1 st1 hQ1
  have X1 := own_reb X1 l1 y1 z1
  obtain ⟨rfl, N1q, e1⟩ := hQ1
  have N1 := Fr.app N0 N1q
  refine Gl.pre (B := T1.setTop (mkF m 7 #[.val (.ref a1), .val (.int p3), .val (.ref a2)] [(.ref a1), (.ref a2)])) (fun _ k => st1.trans (XS.aloadN X1.here hx rfl (hb hby d10_5) rfl rfl (XS.aloadN X1.here hx rfl (hb hby d10_6) rfl rfl k))) ?_
  obtain ⟨T2, X2, e2, st2⟩ := getF X1 hx hZ hown (host := "") (Or.inl (wq hw 25 rfl)) Via.refl e1 Fv (g := (mkF m 7 #[.val (.ref a1), .val (.int p3), .val (.ref a2)] [(.ref a1), (.ref a2)])) rfl rfl (hb hby d10_7)
  refine Gl.pre (B := T2.setTop (mkF m 12 #[.val (.ref a1), .val (.int p3), .val (.ref a2)] [(.ref a1), (.int p3), (.ref t), (.ref a2)])) (fun _ k => st2 _ (XS.iloadN X2.here hx rfl (hb hby d10_10) rfl (XS.aloadN X2.here hx rfl (hb hby d10_11) rfl rfl k))) ?_
  obtain ⟨T3, X3, e3, st3⟩ := getF X2 hx hZ hown (host := "") (Or.inl (wq hw 27 rfl)) Via.refl e2 Fc (g := (mkF m 12 #[.val (.ref a1), .val (.int p3), .val (.ref a2)] [(.ref a1), (.int p3), (.ref t), (.ref a2)])) rfl rfl (hb hby d10_12)
  refine Gl.pre (B := T3.setTop (mkF m 15 #[.val (.ref a1), .val (.int p3), .val (.ref a2)] [(.int (0 : Int32)), (.int p3), (.ref t), (.ref a2)])) (fun _ k => st3 _ k) ?_
  obtain ⟨cq4, kq4, q4a, q4b, q4c⟩ := isOf hZ e3 E_a2
  obtain ⟨rv4, _, ⟨T4, L4, k4, n4⟩, -, X4, ⟨Lc4, hQ4, l4, y4, z4⟩, st4⟩ := X3.virtualBack hx (y := (⟨"java/lang/String", "getBytes", "([BIB)V"⟩ : MethodName)) (z := (⟨"java/lang/String", "getBytes", "([BIB)V"⟩ : MethodName)) hown (mvT hZ (wq hw 76 rfl)) (mvT hZ (wq hw 77 rfl)) (notFace_of_selects (args := #[]) (mvT hZ (wq hw 79 rfl))) (mvT hZ (wq hw 79 rfl)) (mvT hZ (wq hw 78 rfl)) (by decide) (backOf (W := 0) (getBy l Z a0 hw [] a2 t p3 k cap cs t2 k2 ds G1 h0 n0 Z0 sv V_t g_t hr hcap hp3 O2 P5 Od) hZ (wq hw 80 rfl) (wq hw 23 rfl) (by decide) (by decide)) q4a q4c (g := (mkF m 15 #[.val (.ref a1), .val (.int p3), .val (.ref a2)] [(.int (0 : Int32)), (.int p3), (.ref t), (.ref a2)])) rfl (by rw [hml]; rfl) (Steps.refl _) (argsL := [(.ref t), (.int p3), (.int (0 : Int32))]) (rest := []) (lenOf pd_4 rfl) rfl (by show 2 * 0 + _ ≤ _; exact Nat.le_of_eq rfl) (hb hby d10_15) (fun _ _ => ⟨rfl, e3, (by decide : 0 + 0 ≤ _), (by decide : 0 + 0 ≤ _)⟩)
  dsimp only [Pt.U, Pt.locs, Pt.cells, Pt.slots] at X4 l4 y4 z4 st4 hQ4
  have X4 := own_reb X4 l4 y4 z4
  obtain ⟨rfl, N4q, K4, V_a2_4⟩ := hQ4
  have N4 := Fr.app N1 N4q
  have K0 := K0.trans K4 (allS (Or.inl (List.mem_of_getElem? (i := 0) rfl)) all0)
  refine Gl.pre (B := T4.setTop (mkF m 18 #[.val (.ref a1), .val (.int p3), .val (.ref a2)] [])) (fun _ k => st4.trans k) ?_
  refine Gl.out X4 (v := none) (fun _ => rfl) hlk (fun fs hr => X4.returnOut hx hret (hb hby d10_18) hr) ?_ (by decide) (by decide)
  show Q_putAt Z _ _ _ _ _ _ _ _ _ _ _ h0 n0 _ T4.heap _
  exact ⟨rfl, N4, K0, V_a2_4⟩
theorem pd_5 : parseMethodDescriptor "()I" = some ⟨[], some .int⟩ := by decide +kernel
theorem pd_6 : parseMethodDescriptor "(ILjava/lang/String;)V" = some ⟨[.int, (.object "java/lang/String")], none⟩ := by decide +kernel
theorem d6_0 : decode jdk_68_method_22_code 0 = .ok (.aload_n 1, 1) := by decide +kernel
theorem d6_1 : decode jdk_68_method_22_code 1 = .ok (.ifnonnull 8, 3) := by decide +kernel
theorem d6_9 : decode jdk_68_method_22_code 9 = .ok (.aload_n 1, 1) := by decide +kernel
theorem d6_10 : decode jdk_68_method_22_code 10 = .ok (.invokevirtual 32, 3) := by decide +kernel
theorem d6_13 : decode jdk_68_method_22_code 13 = .ok (.istore_n 2, 1) := by decide +kernel
theorem d6_14 : decode jdk_68_method_22_code 14 = .ok (.aload_n 0, 1) := by decide +kernel
theorem d6_15 : decode jdk_68_method_22_code 15 = .ok (.aload_n 0, 1) := by decide +kernel
theorem d6_16 : decode jdk_68_method_22_code 16 = .ok (.getfield 79, 3) := by decide +kernel
theorem d6_19 : decode jdk_68_method_22_code 19 = .ok (.iload_n 2, 1) := by decide +kernel
theorem d6_20 : decode jdk_68_method_22_code 20 = .ok (.iadd, 1) := by decide +kernel
theorem d6_21 : decode jdk_68_method_22_code 21 = .ok (.invokevirtual 100, 3) := by decide +kernel
theorem d6_24 : decode jdk_68_method_22_code 24 = .ok (.aload_n 0, 1) := by decide +kernel
theorem d6_25 : decode jdk_68_method_22_code 25 = .ok (.aload_n 0, 1) := by decide +kernel
theorem d6_26 : decode jdk_68_method_22_code 26 = .ok (.getfield 79, 3) := by decide +kernel
theorem d6_29 : decode jdk_68_method_22_code 29 = .ok (.aload_n 1, 1) := by decide +kernel
theorem d6_30 : decode jdk_68_method_22_code 30 = .ok (.invokevirtual 208, 3) := by decide +kernel
theorem d6_33 : decode jdk_68_method_22_code 33 = .ok (.aload_n 0, 1) := by decide +kernel
theorem d6_34 : decode jdk_68_method_22_code 34 = .ok (.dup, 1) := by decide +kernel
theorem d6_35 : decode jdk_68_method_22_code 35 = .ok (.getfield 79, 3) := by decide +kernel
theorem d6_38 : decode jdk_68_method_22_code 38 = .ok (.iload_n 2, 1) := by decide +kernel
theorem d6_39 : decode jdk_68_method_22_code 39 = .ok (.iadd, 1) := by decide +kernel
theorem d6_40 : decode jdk_68_method_22_code 40 = .ok (.putfield 79, 3) := by decide +kernel
theorem d6_43 : decode jdk_68_method_22_code 43 = .ok (.aload_n 0, 1) := by decide +kernel
theorem d6_44 : decode jdk_68_method_22_code 44 = .ok (.areturn, 1) := by decide +kernel
theorem ef_asbApp (m : MethodId) (x0 : Addr) (x1 : Addr) : entryFrame m #[(.ref x0), (.ref x1)] 3 = mkF m 0 #[.val (.ref x0), .val (.ref x1), .unset] [] := by first | (simp [entryFrame, mkF, argsToLocals, Value.category]; done) | rfl
def Q_asbApp (Z : State) (a1 : Addr) (a2 : Addr) (t : Addr) (k : ClassId) (cap : Nat) (cs : List Int32) (t2 : Addr) (k2 : ClassId) (ds : List Int32) (G1 : Int32) (h0 : Heap) (n0 : Nat) (v : Option Value) (h : Heap) (L : List Loc) : Prop := v = some (.ref a1) ∧ Fr n0 L ∧ (Keep h0 h [a1, t]) ∧ (SBs Z h a1 t k cap (cs ++ ds))
set_option maxRecDepth 65536 in
set_option maxHeartbeats 40000000 in
theorem asbApp (l : Launch) (Z : State) (a0 : Array Value) (hw : ∀ d ∈ tables_1, d.before a0 Z = true) (ws : List Jvm.Cond) (a1 : Addr) (a2 : Addr) (t : Addr) (k : ClassId) (cap : Nat) (cs : List Int32) (t2 : Addr) (k2 : ClassId) (ds : List Int32) (G1 : Int32) (h0 : Heap) (n0 : Nat) (Z0 : n0 ≤ h0.size) (sb : SBs Z h0 a1 t k cap cs) (sv : StrV Z h0 a2 t2 k2 ds) (g_a1 : n0 ≤ a1) (g_t : n0 ≤ t) (hr : cs.length + ds.length ≤ cap) (hne : a1 ≠ t) (O2 : Sta Z Z.heap "java/lang/String" "COMPACT_STRINGS" "Z" (.int G1)) (P5 : ¬ (G1 = (0 : Int32))) (Od : Old Z n0 h0) :
    MetFree l (⟨"java/lang/AbstractStringBuilder", "append", "(Ljava/lang/String;)Ljava/lang/AbstractStringBuilder;"⟩ : MethodName) (head1 (Jvm.Cond.code (⟨"java/lang/AbstractStringBuilder", "append", "(Ljava/lang/String;)Ljava/lang/AbstractStringBuilder;"⟩ : MethodName) jdk_68_method_22_code 3 (some (.object "java/lang/AbstractStringBuilder")) :: ws) ({ frames := 3, cells := 0, slots := 0, locals := 69 } : Room)) (fun a U => a = #[(.ref a1), (.ref a2)] ∧ Z.Warmed39 U.vm ∧ U.heap = h0) (fun _ _ _ _ _ => True) (fun _ U o U' => ∃ v L, o = .returned v ∧ Q_asbApp Z a1 a2 t k cap cs t2 k2 ds G1 h0 n0 v U'.heap L ∧ FrameEnd U o U' L ({ frames := 3, cells := 0, slots := 0, locals := 69 } : Room).cells ({ frames := 3, cells := 0, slots := 0, locals := 69 } : Room).slots) := by
  refine MetFree.of_bodySF (plainFor_of_name pn_java_lang_AbstractStringBuilder) hisR ?_
  intro p e s m args below meth c s₁ Bd hml0 hP hK
  obtain ⟨rfl, hZ, hh⟩ := hP
  have hx := Bd.exec
  have hby := Bd.bytes
  have hml : c.maxLocals = 3 := hml0
  have hown : s.vm.findClass "java/lang/AbstractStringBuilder" = some m.cls := findClass_of_methodNamed Bd.named
  have hnm := (name_of_methodNamed Bd.named Bd.method).1
  have hret : meth.sig.returnType = (some (.object "java/lang/AbstractStringBuilder")) := Bd.returns
  have hlk : meth.locks = false := BodyLoose.notSynchronized Bd
  have X0 : Stand p l e ({ frames := 3, cells := 0, slots := 0, locals := 69 } : Room) s m #[(.ref a1), (.ref a2)] below meth c s₁ [] 0 0 := Stand.of_body Bd
  have e0 : s₁.heap = h0 := by rw [← hh, Bd.state]; rfl
  have N0 := Fr.nil n0
  have K0 : Keep h0 h0 [a1, t] := Keep.refl h0 _
  show Gl p.tables e below s (Q_asbApp Z a1 a2 t k cap cs t2 k2 ds G1 h0 n0) 0 0 _
  refine Gl.pre (B := s₁.setTop (mkF m 0 #[.val (.ref a1), .val (.ref a2), .unset] [])) (fun _ k => castTop (ef_asbApp m a1 a2) k) ?_
  obtain ⟨E_a1, Fv_a1, Fc_a1, Fn_a1, V_t, hl_a1, hc_a1, hb_a1⟩ := id sb
  obtain ⟨E_a2, Fv_a2, Fc_a2, V_a2, hb_a2, hl_a2⟩ := id sv
  refine Gl.pre (B := s₁.setTop (mkF m 10 #[.val (.ref a1), .val (.ref a2), .unset] [(.ref a2)])) (fun _ k => XS.aloadN X0.here hx rfl (hb hby d6_0) rfl rfl (XS.ifnonnullYes X0.here hx rfl (pc0 := 1) (pc' := 9) rfl (hb hby d6_1) rfl (by decide) (by decide) (XS.aloadN X0.here hx rfl (hb hby d6_9) rfl rfl k))) ?_
  obtain ⟨cq1, kq1, q1a, q1b, q1c⟩ := isOf hZ e0 E_a2
  obtain ⟨rv1, _, ⟨T1, L1, k1, n1⟩, -, X1, ⟨Lc1, hQ1, l1, y1, z1⟩, st1⟩ := X0.virtualBack hx (y := (⟨"java/lang/String", "length", "()I"⟩ : MethodName)) (z := (⟨"java/lang/String", "length", "()I"⟩ : MethodName)) hown (mvT hZ (wq hw 45 rfl)) (mvT hZ (wq hw 46 rfl)) (notFace_of_selects (args := #[]) (mvT hZ (wq hw 48 rfl))) (mvT hZ (wq hw 48 rfl)) (mvT hZ (wq hw 47 rfl)) (by decide) (backOf (W := 0) (strLen l Z a0 hw [] a2 t2 k2 ds G1 h0 n0 Z0 sv O2 P5 Od) hZ (wq hw 49 rfl) (wq hw 23 rfl) (by decide) (by decide)) q1a q1c (g := (mkF m 10 #[.val (.ref a1), .val (.ref a2), .unset] [(.ref a2)])) rfl (by rw [hml]; rfl) (Steps.refl _) (argsL := []) (rest := []) (lenOf pd_5 rfl) rfl (by show 2 * 0 + _ ≤ _; exact Nat.le_of_eq rfl) (hb hby d6_10) (fun _ _ => ⟨rfl, e0, (by decide : 0 + 0 ≤ _), (by decide : 0 + 0 ≤ _)⟩)
  dsimp only [Pt.U, Pt.locs, Pt.cells, Pt.slots] at X1 l1 y1 z1 st1 hQ1
  have X1 := own_reb X1 l1 y1 z1
  obtain ⟨rfl, N1q, e1⟩ := hQ1
  have N1 := Fr.app N0 N1q
  refine Gl.pre (B := T1.setTop (mkF m 16 #[.val (.ref a1), .val (.ref a2), .val (.int (Int32.ofNat ds.length))] [(.ref a1), (.ref a1)])) (fun _ k => st1.trans (XS.istoreN X1.here hx rfl (hb hby d6_13) rfl (l' := #[.val (.ref a1), .val (.ref a2), .val (.int (Int32.ofNat ds.length))]) rfl (XS.aloadN X1.here hx rfl (hb hby d6_14) rfl rfl (XS.aloadN X1.here hx rfl (hb hby d6_15) rfl rfl k)))) ?_
  obtain ⟨T2, X2, e2, st2⟩ := getF X1 hx hZ hown (host := "") (Or.inl (wq hw 58 rfl)) Via.refl e1 Fn_a1 (g := (mkF m 16 #[.val (.ref a1), .val (.ref a2), .val (.int (Int32.ofNat ds.length))] [(.ref a1), (.ref a1)])) rfl rfl (hb hby d6_16)
  refine Gl.pre (B := T2.setTop (mkF m 21 #[.val (.ref a1), .val (.ref a2), .val (.int (Int32.ofNat ds.length))] [(.int ((Int32.ofNat cs.length) + (Int32.ofNat ds.length))), (.ref a1)])) (fun _ k => st2 _ (XS.iloadN X2.here hx rfl (hb hby d6_19) rfl (XS.iadd X2.here hx rfl (hb hby d6_20) rfl k))) ?_
  obtain ⟨cq3, kq3, q3a, q3b, q3c⟩ := isOf hZ e2 E_a1
  obtain ⟨rv3, _, ⟨T3, L3, k3, n3⟩, -, X3, ⟨Lc3, hQ3, l3, y3, z3⟩, st3⟩ := X2.virtualBack hx (y := (⟨"java/lang/AbstractStringBuilder", "ensureCapacityInternal", "(I)V"⟩ : MethodName)) (z := (⟨"java/lang/AbstractStringBuilder", "ensureCapacityInternal", "(I)V"⟩ : MethodName)) hown (mvT hZ (wq hw 60 rfl)) (mvT hZ (own_declares (wq hw 61 rfl) (wq hw 64 rfl))) (notFace_of_selects (args := #[]) (mvT hZ (wq hw 63 rfl))) (mvT hZ (wq hw 63 rfl)) (mvT hZ (wq hw 61 rfl)) (by decide) (backOf (W := 0) (ensCap l Z a0 hw [] a1 ((Int32.ofNat cs.length) + (Int32.ofNat ds.length)) t k (Int32.ofNat cap) (byt cs ++ List.replicate (cap - cs.length) (.int 0)) h0 n0 Z0 Fv_a1 Fc_a1 V_t (by rw [own_add32, Int32.lt_iff_toInt_lt]; have e0 : (0 : Int32).toInt = 0 := rfl; rw [e0, XT.sub32 (by rw [own_toInt (by omega), own_toInt (by omega)]; constructor <;> omega), own_toInt (by omega), own_toInt (by omega)]; omega)) hZ (wq hw 64 rfl) (wq hw 17 rfl) (by decide) (by decide)) q3a q3c (g := (mkF m 21 #[.val (.ref a1), .val (.ref a2), .val (.int (Int32.ofNat ds.length))] [(.int ((Int32.ofNat cs.length) + (Int32.ofNat ds.length))), (.ref a1)])) rfl (by rw [hml]; rfl) (Steps.refl _) (argsL := [(.int ((Int32.ofNat cs.length) + (Int32.ofNat ds.length)))]) (rest := []) (lenOf pd_3 rfl) rfl (by show 2 * 0 + _ ≤ _; exact Nat.le_of_eq rfl) (hb hby d6_21) (fun _ _ => ⟨rfl, e2, (by decide : 0 + 0 ≤ _), (by decide : 0 + 0 ≤ _)⟩)
  dsimp only [Pt.U, Pt.locs, Pt.cells, Pt.slots] at X3 l3 y3 z3 st3 hQ3
  have X3 := own_reb X3 l3 y3 z3
  obtain ⟨rfl, N3q, e3⟩ := hQ3
  have N3 := Fr.app N1 N3q
  refine Gl.pre (B := T3.setTop (mkF m 26 #[.val (.ref a1), .val (.ref a2), .val (.int (Int32.ofNat ds.length))] [(.ref a1), (.ref a1)])) (fun _ k => st3.trans (XS.aloadN X3.here hx rfl (hb hby d6_24) rfl rfl (XS.aloadN X3.here hx rfl (hb hby d6_25) rfl rfl k))) ?_
  obtain ⟨T4, X4, e4, st4⟩ := getF X3 hx hZ hown (host := "") (Or.inl (wq hw 58 rfl)) Via.refl e3 Fn_a1 (g := (mkF m 26 #[.val (.ref a1), .val (.ref a2), .val (.int (Int32.ofNat ds.length))] [(.ref a1), (.ref a1)])) rfl rfl (hb hby d6_26)
  refine Gl.pre (B := T4.setTop (mkF m 30 #[.val (.ref a1), .val (.ref a2), .val (.int (Int32.ofNat ds.length))] [(.ref a2), (.int (Int32.ofNat cs.length)), (.ref a1)])) (fun _ k => st4 _ (XS.aloadN X4.here hx rfl (hb hby d6_29) rfl rfl k)) ?_
  obtain ⟨cq5, kq5, q5a, q5b, q5c⟩ := isOf hZ e4 E_a1
  obtain ⟨rv5, _, ⟨T5, L5, k5, n5⟩, -, X5, ⟨Lc5, hQ5, l5, y5, z5⟩, st5⟩ := X4.virtualBack hx (y := (⟨"java/lang/AbstractStringBuilder", "putStringAt", "(ILjava/lang/String;)V"⟩ : MethodName)) (z := (⟨"java/lang/AbstractStringBuilder", "putStringAt", "(ILjava/lang/String;)V"⟩ : MethodName)) hown (mvT hZ (wq hw 65 rfl)) (mvT hZ (own_declares (wq hw 66 rfl) (wq hw 69 rfl))) (notFace_of_selects (args := #[]) (mvT hZ (wq hw 68 rfl))) (mvT hZ (wq hw 68 rfl)) (mvT hZ (wq hw 66 rfl)) (by decide) (backOf (W := 0) (putAt l Z a0 hw [] a1 (Int32.ofNat cs.length) a2 t k cap cs t2 k2 ds G1 h0 n0 Z0 E_a1 Fv_a1 Fc_a1 sv V_t g_t hr hc_a1 rfl O2 P5 Od) hZ (wq hw 69 rfl) (wq hw 17 rfl) (by decide) (by decide)) q5a q5c (g := (mkF m 30 #[.val (.ref a1), .val (.ref a2), .val (.int (Int32.ofNat ds.length))] [(.ref a2), (.int (Int32.ofNat cs.length)), (.ref a1)])) rfl (by rw [hml]; rfl) (Steps.refl _) (argsL := [(.int (Int32.ofNat cs.length)), (.ref a2)]) (rest := []) (lenOf pd_6 rfl) rfl (by show 2 * 0 + _ ≤ _; exact Nat.le_of_eq rfl) (hb hby d6_30) (fun _ _ => ⟨rfl, e4, (by decide : 0 + 0 ≤ _), (by decide : 0 + 0 ≤ _)⟩)
  dsimp only [Pt.U, Pt.locs, Pt.cells, Pt.slots] at X5 l5 y5 z5 st5 hQ5
  have X5 := own_reb X5 l5 y5 z5
  obtain ⟨rfl, N5q, K5, V_t_5⟩ := hQ5
  have N5 := Fr.app N3 N5q
  have K0 := K0.trans K5 (allS (Or.inl (List.mem_of_getElem? (i := 1) rfl)) all0)
  have E_a1 := E_a1.keep K5
  have Fv_a1 := Fv_a1.keep K5 (ninS hne nin0)
  have Fc_a1 := Fc_a1.keep K5 (ninS hne nin0)
  have Fn_a1 := Fn_a1.keep K5 (ninS hne nin0)
  refine Gl.pre (B := T5.setTop (mkF m 35 #[.val (.ref a1), .val (.ref a2), .val (.int (Int32.ofNat ds.length))] [(.ref a1), (.ref a1)])) (fun _ k => st5.trans (XS.aloadN X5.here hx rfl (hb hby d6_33) rfl rfl (XS.dup X5.here hx rfl (hb hby d6_34) rfl rfl k))) ?_
  obtain ⟨T6, X6, e6, st6⟩ := getF X5 hx hZ hown (host := "") (Or.inl (wq hw 58 rfl)) Via.refl rfl Fn_a1 (g := (mkF m 35 #[.val (.ref a1), .val (.ref a2), .val (.int (Int32.ofNat ds.length))] [(.ref a1), (.ref a1)])) rfl rfl (hb hby d6_35)
  refine Gl.pre (B := T6.setTop (mkF m 40 #[.val (.ref a1), .val (.ref a2), .val (.int (Int32.ofNat ds.length))] [(.int ((Int32.ofNat cs.length) + (Int32.ofNat ds.length))), (.ref a1)])) (fun _ k => st6 _ (XS.iloadN X6.here hx rfl (hb hby d6_38) rfl (XS.iadd X6.here hx rfl (hb hby d6_39) rfl k))) ?_
  obtain ⟨T7, h7, X7, e7, W7, st7⟩ := putF X6 hx hZ hown (host := "") (Or.inl (wq hw 58 rfl)) Via.refl e6 Fn_a1 E_a1 (Or.inl (wq hw 59 rfl)) (wq hw 8 rfl) (ty := .int) (by decide) rfl rfl (g := (mkF m 40 #[.val (.ref a1), .val (.ref a2), .val (.int (Int32.ofNat ds.length))] [(.int ((Int32.ofNat cs.length) + (Int32.ofNat ds.length))), (.ref a1)])) rfl rfl (hb hby d6_40)
  have N7 := Fr.snoc X7 N5 g_a1
  have Fn_a1_n := Fn_a1.same W7
  have K0 := K0.wr W7 (Or.inl (List.mem_of_getElem? (i := 0) rfl))
  have E_a1 := E_a1.wr W7
  have Fv_a1 := Fv_a1.other W7 (Or.inr (slot_ne (Or.inl (wq hw 26 rfl)) (Or.inl (wq hw 59 rfl)) (by decide) (t := (.array .byte)) (t' := .int) (by decide) (by decide)))
  have Fc_a1 := Fc_a1.other W7 (Or.inr (slot_ne (Or.inl (wq hw 28 rfl)) (Or.inl (wq hw 59 rfl)) (by decide) (t := .byte) (t' := .int) (by decide) (by decide)))
  have V_t_5 := V_t_5.other W7 (Ne.symm hne)
  have Fn_a1 := Fn_a1_n
  refine Gl.pre (B := T7.setTop (mkF m 44 #[.val (.ref a1), .val (.ref a2), .val (.int (Int32.ofNat ds.length))] [(.ref a1)])) (fun _ k => st7 _ (XS.aloadN X7.here hx rfl (hb hby d6_43) rfl rfl k)) ?_
  refine Gl.out X7 (v := some (.ref a1)) (fun h => by rw [hret] at h; cases h) hlk (fun fs hr => retOut X7 hx hret rfl (Or.inr (Or.inr (Or.inr (Or.inr ⟨rfl, rfl, rfl⟩)))) (hb hby d6_44) hr) ?_ (by decide) (by decide)
  show Q_asbApp Z _ _ _ _ _ _ _ _ _ _ h0 n0 _ T7.heap _
  rw [e7]
  exact ⟨rfl, N7, K0, E_a1, Fv_a1, Fc_a1, by rw [List.length_append, ← own_add32]; exact Fn_a1, V_t_5, by rw [List.length_append]; exact hr, hc_a1, own_all_app hb_a1 hb_a2⟩
theorem pd_7 : parseMethodDescriptor "(Ljava/lang/String;)Ljava/lang/AbstractStringBuilder;" = some ⟨[(.object "java/lang/String")], some (.object "java/lang/AbstractStringBuilder")⟩ := by decide +kernel
theorem d5_0 : decode jdk_67_method_7_code 0 = .ok (.aload_n 0, 1) := by decide +kernel
theorem d5_1 : decode jdk_67_method_7_code 1 = .ok (.aload_n 1, 1) := by decide +kernel
theorem d5_2 : decode jdk_67_method_7_code 2 = .ok (.invokespecial 29, 3) := by decide +kernel
theorem d5_5 : decode jdk_67_method_7_code 5 = .ok (.pop, 1) := by decide +kernel
theorem d5_6 : decode jdk_67_method_7_code 6 = .ok (.aload_n 0, 1) := by decide +kernel
theorem d5_7 : decode jdk_67_method_7_code 7 = .ok (.areturn, 1) := by decide +kernel
theorem ef_sbApp (m : MethodId) (x0 : Addr) (x1 : Addr) : entryFrame m #[(.ref x0), (.ref x1)] 2 = mkF m 0 #[.val (.ref x0), .val (.ref x1)] [] := by first | (simp [entryFrame, mkF, argsToLocals, Value.category]; done) | rfl
def Q_sbApp (Z : State) (a1 : Addr) (a2 : Addr) (t : Addr) (k : ClassId) (cap : Nat) (cs : List Int32) (t2 : Addr) (k2 : ClassId) (ds : List Int32) (G1 : Int32) (h0 : Heap) (n0 : Nat) (v : Option Value) (h : Heap) (L : List Loc) : Prop := v = some (.ref a1) ∧ Fr n0 L ∧ (Keep h0 h [a1, t]) ∧ (SBs Z h a1 t k cap (cs ++ ds))
set_option maxRecDepth 65536 in
set_option maxHeartbeats 40000000 in
theorem sbApp (l : Launch) (Z : State) (a0 : Array Value) (hw : ∀ d ∈ tables_1, d.before a0 Z = true) (ws : List Jvm.Cond) (a1 : Addr) (a2 : Addr) (t : Addr) (k : ClassId) (cap : Nat) (cs : List Int32) (t2 : Addr) (k2 : ClassId) (ds : List Int32) (G1 : Int32) (h0 : Heap) (n0 : Nat) (Z0 : n0 ≤ h0.size) (sb : SBs Z h0 a1 t k cap cs) (sv : StrV Z h0 a2 t2 k2 ds) (g_a1 : n0 ≤ a1) (g_t : n0 ≤ t) (hr : cs.length + ds.length ≤ cap) (hne : a1 ≠ t) (O2 : Sta Z Z.heap "java/lang/String" "COMPACT_STRINGS" "Z" (.int G1)) (P5 : ¬ (G1 = (0 : Int32))) (Od : Old Z n0 h0) :
    MetFree l (⟨"java/lang/StringBuilder", "append", "(Ljava/lang/String;)Ljava/lang/StringBuilder;"⟩ : MethodName) (head1 (Jvm.Cond.code (⟨"java/lang/StringBuilder", "append", "(Ljava/lang/String;)Ljava/lang/StringBuilder;"⟩ : MethodName) jdk_67_method_7_code 2 (some (.object "java/lang/StringBuilder")) :: ws) ({ frames := 4, cells := 0, slots := 0, locals := 83 } : Room)) (fun a U => a = #[(.ref a1), (.ref a2)] ∧ Z.Warmed39 U.vm ∧ U.heap = h0) (fun _ _ _ _ _ => True) (fun _ U o U' => ∃ v L, o = .returned v ∧ Q_sbApp Z a1 a2 t k cap cs t2 k2 ds G1 h0 n0 v U'.heap L ∧ FrameEnd U o U' L ({ frames := 4, cells := 0, slots := 0, locals := 83 } : Room).cells ({ frames := 4, cells := 0, slots := 0, locals := 83 } : Room).slots) := by
  refine MetFree.of_bodySF (plainFor_of_name pn_java_lang_StringBuilder) hisR ?_
  intro p e s m args below meth c s₁ Bd hml0 hP hK
  obtain ⟨rfl, hZ, hh⟩ := hP
  have hx := Bd.exec
  have hby := Bd.bytes
  have hml : c.maxLocals = 2 := hml0
  have hown : s.vm.findClass "java/lang/StringBuilder" = some m.cls := findClass_of_methodNamed Bd.named
  have hnm := (name_of_methodNamed Bd.named Bd.method).1
  have hret : meth.sig.returnType = (some (.object "java/lang/StringBuilder")) := Bd.returns
  have hlk : meth.locks = false := BodyLoose.notSynchronized Bd
  have X0 : Stand p l e ({ frames := 4, cells := 0, slots := 0, locals := 83 } : Room) s m #[(.ref a1), (.ref a2)] below meth c s₁ [] 0 0 := Stand.of_body Bd
  have e0 : s₁.heap = h0 := by rw [← hh, Bd.state]; rfl
  have N0 := Fr.nil n0
  have K0 : Keep h0 h0 [a1, t] := Keep.refl h0 _
  show Gl p.tables e below s (Q_sbApp Z a1 a2 t k cap cs t2 k2 ds G1 h0 n0) 0 0 _
  refine Gl.pre (B := s₁.setTop (mkF m 0 #[.val (.ref a1), .val (.ref a2)] [])) (fun _ k => castTop (ef_sbApp m a1 a2) k) ?_
  have E_a1 := sb.1
  refine Gl.pre (B := s₁.setTop (mkF m 2 #[.val (.ref a1), .val (.ref a2)] [(.ref a2), (.ref a1)])) (fun _ k => XS.aloadN X0.here hx rfl (hb hby d5_0) rfl rfl (XS.aloadN X0.here hx rfl (hb hby d5_1) rfl rfl k)) ?_
  obtain ⟨rv1, _, ⟨T1, L1, k1, n1⟩, -, X1, ⟨Lc1, hQ1, l1, y1, z1⟩, st1⟩ := superBack X0 hx hZ (y := (⟨"java/lang/AbstractStringBuilder", "append", "(Ljava/lang/String;)Ljava/lang/AbstractStringBuilder;"⟩ : MethodName)) hown (wq hw 40 rfl) (own_same (y := (⟨"java/lang/AbstractStringBuilder", "append", "(Ljava/lang/String;)Ljava/lang/AbstractStringBuilder;"⟩ : MethodName)) (wq hw 41 rfl) (wq hw 63 rfl) rfl (by decide)) (wq hw 41 rfl) (wq hw 42 rfl) (by decide) (backOf (W := 0) (asbApp l Z a0 hw [] a1 a2 t k cap cs t2 k2 ds G1 h0 n0 Z0 sb sv g_a1 g_t hr hne O2 P5 Od) hZ (wq hw 44 rfl) (wq hw 17 rfl) (by decide) (by decide)) e0 (Ins.self E_a1) (g := (mkF m 2 #[.val (.ref a1), .val (.ref a2)] [(.ref a2), (.ref a1)])) rfl (by rw [hml]; rfl) (wq hw 44 rfl) (argsL := [(.ref a2)]) (rest := []) (lenOf pd_7 rfl) rfl (by show 2 * 0 + _ ≤ _; exact Nat.le_of_eq rfl) (hb hby d5_2) (fun _ _ => ⟨rfl, e0, (by decide : 0 + 0 ≤ _), (by decide : 0 + 0 ≤ _)⟩)
  dsimp only [Pt.U, Pt.locs, Pt.cells, Pt.slots] at X1 l1 y1 z1 st1 hQ1
  have X1 := own_reb X1 l1 y1 z1
  obtain ⟨rfl, N1q, K1, sb_1⟩ := hQ1
  have N1 := Fr.app N0 N1q
  have K0 := K0.trans K1 (allS (Or.inl (List.mem_of_getElem? (i := 0) rfl)) (allS (Or.inl (List.mem_of_getElem? (i := 1) rfl)) all0))
  refine Gl.pre (B := T1.setTop (mkF m 7 #[.val (.ref a1), .val (.ref a2)] [(.ref a1)])) (fun _ k => st1.trans (XS.pop X1.here hx rfl (hb hby d5_5) rfl rfl (XS.aloadN X1.here hx rfl (hb hby d5_6) rfl rfl k))) ?_
  refine Gl.out X1 (v := some (.ref a1)) (fun h => by rw [hret] at h; cases h) hlk (fun fs hr => retOut X1 hx hret rfl (Or.inr (Or.inr (Or.inr (Or.inr ⟨rfl, rfl, rfl⟩)))) (hb hby d5_7) hr) ?_ (by decide) (by decide)
  show Q_sbApp Z _ _ _ _ _ _ _ _ _ _ h0 n0 _ T1.heap _
  exact ⟨rfl, N1, K0, sb_1⟩
theorem d26_0 : decode jdk_68_method_64_code 0 = .ok (.aload_n 0, 1) := by decide +kernel
theorem d26_1 : decode jdk_68_method_64_code 1 = .ok (.getfield 15, 3) := by decide +kernel
theorem d26_4 : decode jdk_68_method_64_code 4 = .ok (.areturn, 1) := by decide +kernel
theorem ef_getVal (m : MethodId) (x0 : Addr) : entryFrame m #[(.ref x0)] 1 = mkF m 0 #[.val (.ref x0)] [] := by first | (simp [entryFrame, mkF, argsToLocals, Value.category]; done) | rfl
def Q_getVal (Z : State) (a1 : Addr) (t : Addr) (h0 : Heap) (n0 : Nat) (v : Option Value) (h : Heap) (L : List Loc) : Prop := v = some (.ref t) ∧ Fr n0 L ∧ (h = h0)
set_option maxRecDepth 65536 in
set_option maxHeartbeats 40000000 in
theorem getVal (l : Launch) (Z : State) (a0 : Array Value) (hw : ∀ d ∈ tables_1, d.before a0 Z = true) (ws : List Jvm.Cond) (a1 : Addr) (t : Addr) (h0 : Heap) (n0 : Nat) (Z0 : n0 ≤ h0.size) (Fv : Fld Z h0 a1 "java/lang/AbstractStringBuilder" "value" "[B" (.ref t)) :
    MetFree l (⟨"java/lang/AbstractStringBuilder", "getValue", "()[B"⟩ : MethodName) (head1 (Jvm.Cond.code (⟨"java/lang/AbstractStringBuilder", "getValue", "()[B"⟩ : MethodName) jdk_68_method_64_code 1 (some (.array .byte)) :: ws) ({ frames := 0, cells := 0, slots := 0, locals := 0 } : Room)) (fun a U => a = #[(.ref a1)] ∧ Z.Warmed39 U.vm ∧ U.heap = h0) (fun _ _ _ _ _ => True) (fun _ U o U' => ∃ v L, o = .returned v ∧ Q_getVal Z a1 t h0 n0 v U'.heap L ∧ FrameEnd U o U' L ({ frames := 0, cells := 0, slots := 0, locals := 0 } : Room).cells ({ frames := 0, cells := 0, slots := 0, locals := 0 } : Room).slots) := by
  refine MetFree.of_bodySF (plainFor_of_name pn_java_lang_AbstractStringBuilder) hisR ?_
  intro p e s m args below meth c s₁ Bd hml0 hP hK
  obtain ⟨rfl, hZ, hh⟩ := hP
  have hx := Bd.exec
  have hby := Bd.bytes
  have hml : c.maxLocals = 1 := hml0
  have hown : s.vm.findClass "java/lang/AbstractStringBuilder" = some m.cls := findClass_of_methodNamed Bd.named
  have hnm := (name_of_methodNamed Bd.named Bd.method).1
  have hret : meth.sig.returnType = (some (.array .byte)) := Bd.returns
  have hlk : meth.locks = false := BodyLoose.notSynchronized Bd
  have X0 : Stand p l e ({ frames := 0, cells := 0, slots := 0, locals := 0 } : Room) s m #[(.ref a1)] below meth c s₁ [] 0 0 := Stand.of_body Bd
  have e0 : s₁.heap = h0 := by rw [← hh, Bd.state]; rfl
  have N0 := Fr.nil n0
  have K0 : Keep h0 h0 [] := Keep.refl h0 _
  show Gl p.tables e below s (Q_getVal Z a1 t h0 n0) 0 0 _
  refine Gl.pre (B := s₁.setTop (mkF m 0 #[.val (.ref a1)] [])) (fun _ k => castTop (ef_getVal m a1) k) ?_
  refine Gl.pre (B := s₁.setTop (mkF m 1 #[.val (.ref a1)] [(.ref a1)])) (fun _ k => XS.aloadN X0.here hx rfl (hb hby d26_0) rfl rfl k) ?_
  obtain ⟨T1, X1, e1, st1⟩ := getF X0 hx hZ hown (host := "") (Or.inl (wq hw 25 rfl)) Via.refl e0 Fv (g := (mkF m 1 #[.val (.ref a1)] [(.ref a1)])) rfl rfl (hb hby d26_1)
  refine Gl.pre (B := T1.setTop (mkF m 4 #[.val (.ref a1)] [(.ref t)])) (fun _ k => st1 _ k) ?_
  refine Gl.out X1 (v := some (.ref t)) (fun h => by rw [hret] at h; cases h) hlk (fun fs hr => retOut X1 hx hret rfl (Or.inr (Or.inr (Or.inr (Or.inr ⟨rfl, rfl, rfl⟩)))) (hb hby d26_4) hr) ?_ (by decide) (by decide)
  show Q_getVal Z _ _ h0 n0 _ T1.heap _
  rw [e1]
  exact ⟨rfl, N0, rfl⟩
theorem d28_0 : decode jdk_68_method_6_code 0 = .ok (.aload_n 0, 1) := by decide +kernel
theorem d28_1 : decode jdk_68_method_6_code 1 = .ok (.getfield 79, 3) := by decide +kernel
theorem d28_4 : decode jdk_68_method_6_code 4 = .ok (.ireturn, 1) := by decide +kernel
theorem ef_asbLen (m : MethodId) (x0 : Addr) : entryFrame m #[(.ref x0)] 1 = mkF m 0 #[.val (.ref x0)] [] := by first | (simp [entryFrame, mkF, argsToLocals, Value.category]; done) | rfl
def Q_asbLen (Z : State) (a1 : Addr) (p2 : Int32) (h0 : Heap) (n0 : Nat) (v : Option Value) (h : Heap) (L : List Loc) : Prop := v = some (.int p2) ∧ Fr n0 L ∧ (h = h0)
set_option maxRecDepth 65536 in
set_option maxHeartbeats 40000000 in
theorem asbLen (l : Launch) (Z : State) (a0 : Array Value) (hw : ∀ d ∈ tables_1, d.before a0 Z = true) (ws : List Jvm.Cond) (a1 : Addr) (p2 : Int32) (h0 : Heap) (n0 : Nat) (Z0 : n0 ≤ h0.size) (Fn : Fld Z h0 a1 "java/lang/AbstractStringBuilder" "count" "I" (.int p2)) :
    MetFree l (⟨"java/lang/AbstractStringBuilder", "length", "()I"⟩ : MethodName) (head1 (Jvm.Cond.code (⟨"java/lang/AbstractStringBuilder", "length", "()I"⟩ : MethodName) jdk_68_method_6_code 1 (some .int) :: ws) ({ frames := 0, cells := 0, slots := 0, locals := 0 } : Room)) (fun a U => a = #[(.ref a1)] ∧ Z.Warmed39 U.vm ∧ U.heap = h0) (fun _ _ _ _ _ => True) (fun _ U o U' => ∃ v L, o = .returned v ∧ Q_asbLen Z a1 p2 h0 n0 v U'.heap L ∧ FrameEnd U o U' L ({ frames := 0, cells := 0, slots := 0, locals := 0 } : Room).cells ({ frames := 0, cells := 0, slots := 0, locals := 0 } : Room).slots) := by
  refine MetFree.of_bodySF (plainFor_of_name pn_java_lang_AbstractStringBuilder) hisR ?_
  intro p e s m args below meth c s₁ Bd hml0 hP hK
  obtain ⟨rfl, hZ, hh⟩ := hP
  have hx := Bd.exec
  have hby := Bd.bytes
  have hml : c.maxLocals = 1 := hml0
  have hown : s.vm.findClass "java/lang/AbstractStringBuilder" = some m.cls := findClass_of_methodNamed Bd.named
  have hnm := (name_of_methodNamed Bd.named Bd.method).1
  have hret : meth.sig.returnType = (some .int) := Bd.returns
  have hlk : meth.locks = false := BodyLoose.notSynchronized Bd
  have X0 : Stand p l e ({ frames := 0, cells := 0, slots := 0, locals := 0 } : Room) s m #[(.ref a1)] below meth c s₁ [] 0 0 := Stand.of_body Bd
  have e0 : s₁.heap = h0 := by rw [← hh, Bd.state]; rfl
  have N0 := Fr.nil n0
  have K0 : Keep h0 h0 [] := Keep.refl h0 _
  show Gl p.tables e below s (Q_asbLen Z a1 p2 h0 n0) 0 0 _
  refine Gl.pre (B := s₁.setTop (mkF m 0 #[.val (.ref a1)] [])) (fun _ k => castTop (ef_asbLen m a1) k) ?_
  refine Gl.pre (B := s₁.setTop (mkF m 1 #[.val (.ref a1)] [(.ref a1)])) (fun _ k => XS.aloadN X0.here hx rfl (hb hby d28_0) rfl rfl k) ?_
  obtain ⟨T1, X1, e1, st1⟩ := getF X0 hx hZ hown (host := "") (Or.inl (wq hw 58 rfl)) Via.refl e0 Fn (g := (mkF m 1 #[.val (.ref a1)] [(.ref a1)])) rfl rfl (hb hby d28_1)
  refine Gl.pre (B := T1.setTop (mkF m 4 #[.val (.ref a1)] [(.int p2)])) (fun _ k => st1 _ k) ?_
  refine Gl.out X1 (v := some (.int p2)) (fun h => by rw [hret] at h; cases h) hlk (fun fs hr => retOut X1 hx hret rfl (Or.inl ⟨rfl, Or.inl rfl, _, rfl⟩) (hb hby d28_4) hr) ?_ (by decide) (by decide)
  show Q_asbLen Z _ _ h0 n0 _ T1.heap _
  rw [e1]
  exact ⟨rfl, N0, rfl⟩
theorem d27_0 : decode jdk_67_method_93_code 0 = .ok (.aload_n 0, 1) := by decide +kernel
theorem d27_1 : decode jdk_67_method_93_code 1 = .ok (.invokespecial 343, 3) := by decide +kernel
theorem d27_4 : decode jdk_67_method_93_code 4 = .ok (.ireturn, 1) := by decide +kernel
theorem ef_sbLen (m : MethodId) (x0 : Addr) : entryFrame m #[(.ref x0)] 1 = mkF m 0 #[.val (.ref x0)] [] := by first | (simp [entryFrame, mkF, argsToLocals, Value.category]; done) | rfl
def Q_sbLen (Z : State) (a1 : Addr) (p2 : Int32) (h0 : Heap) (n0 : Nat) (v : Option Value) (h : Heap) (L : List Loc) : Prop := v = some (.int p2) ∧ Fr n0 L ∧ (h = h0)
set_option maxRecDepth 65536 in
set_option maxHeartbeats 40000000 in
theorem sbLen (l : Launch) (Z : State) (a0 : Array Value) (hw : ∀ d ∈ tables_1, d.before a0 Z = true) (ws : List Jvm.Cond) (a1 : Addr) (p2 : Int32) (h0 : Heap) (n0 : Nat) (Z0 : n0 ≤ h0.size) (E_a1 : Exa Z h0 a1 "java/lang/StringBuilder") (Fn : Fld Z h0 a1 "java/lang/AbstractStringBuilder" "count" "I" (.int p2)) :
    MetFree l (⟨"java/lang/StringBuilder", "length", "()I"⟩ : MethodName) (head1 (Jvm.Cond.code (⟨"java/lang/StringBuilder", "length", "()I"⟩ : MethodName) jdk_67_method_93_code 1 (some .int) :: ws) ({ frames := 1, cells := 0, slots := 0, locals := 12 } : Room)) (fun a U => a = #[(.ref a1)] ∧ Z.Warmed39 U.vm ∧ U.heap = h0) (fun _ _ _ _ _ => True) (fun _ U o U' => ∃ v L, o = .returned v ∧ Q_sbLen Z a1 p2 h0 n0 v U'.heap L ∧ FrameEnd U o U' L ({ frames := 1, cells := 0, slots := 0, locals := 12 } : Room).cells ({ frames := 1, cells := 0, slots := 0, locals := 12 } : Room).slots) := by
  refine MetFree.of_bodySF (plainFor_of_name pn_java_lang_StringBuilder) hisR ?_
  intro p e s m args below meth c s₁ Bd hml0 hP hK
  obtain ⟨rfl, hZ, hh⟩ := hP
  have hx := Bd.exec
  have hby := Bd.bytes
  have hml : c.maxLocals = 1 := hml0
  have hown : s.vm.findClass "java/lang/StringBuilder" = some m.cls := findClass_of_methodNamed Bd.named
  have hnm := (name_of_methodNamed Bd.named Bd.method).1
  have hret : meth.sig.returnType = (some .int) := Bd.returns
  have hlk : meth.locks = false := BodyLoose.notSynchronized Bd
  have X0 : Stand p l e ({ frames := 1, cells := 0, slots := 0, locals := 12 } : Room) s m #[(.ref a1)] below meth c s₁ [] 0 0 := Stand.of_body Bd
  have e0 : s₁.heap = h0 := by rw [← hh, Bd.state]; rfl
  have N0 := Fr.nil n0
  have K0 : Keep h0 h0 [] := Keep.refl h0 _
  show Gl p.tables e below s (Q_sbLen Z a1 p2 h0 n0) 0 0 _
  refine Gl.pre (B := s₁.setTop (mkF m 0 #[.val (.ref a1)] [])) (fun _ k => castTop (ef_sbLen m a1) k) ?_
  refine Gl.pre (B := s₁.setTop (mkF m 1 #[.val (.ref a1)] [(.ref a1)])) (fun _ k => XS.aloadN X0.here hx rfl (hb hby d27_0) rfl rfl k) ?_
  obtain ⟨rv1, _, ⟨T1, L1, k1, n1⟩, -, X1, ⟨Lc1, hQ1, l1, y1, z1⟩, st1⟩ := superBack X0 hx hZ (y := (⟨"java/lang/AbstractStringBuilder", "length", "()I"⟩ : MethodName)) hown (wq hw 156 rfl) (own_same (y := (⟨"java/lang/AbstractStringBuilder", "length", "()I"⟩ : MethodName)) (wq hw 152 rfl) (wq hw 63 rfl) rfl (by decide)) (wq hw 152 rfl) (wq hw 42 rfl) (by decide) (backOf (W := 0) (asbLen l Z a0 hw [] a1 p2 h0 n0 Z0 Fn) hZ (wq hw 157 rfl) (wq hw 17 rfl) (by decide) (by decide)) e0 (Ins.self E_a1) (g := (mkF m 1 #[.val (.ref a1)] [(.ref a1)])) rfl (by rw [hml]; rfl) (wq hw 157 rfl) (argsL := []) (rest := []) (lenOf pd_5 rfl) rfl (by show 2 * 0 + _ ≤ _; exact Nat.le_of_eq rfl) (hb hby d27_1) (fun _ _ => ⟨rfl, e0, (by decide : 0 + 0 ≤ _), (by decide : 0 + 0 ≤ _)⟩)
  dsimp only [Pt.U, Pt.locs, Pt.cells, Pt.slots] at X1 l1 y1 z1 st1 hQ1
  have X1 := own_reb X1 l1 y1 z1
  obtain ⟨rfl, N1q, e1⟩ := hQ1
  have N1 := Fr.app N0 N1q
  refine Gl.pre (B := T1.setTop (mkF m 4 #[.val (.ref a1)] [(.int p2)])) (fun _ k => st1.trans k) ?_
  refine Gl.out X1 (v := some (.int p2)) (fun h => by rw [hret] at h; cases h) hlk (fun fs hr => retOut X1 hx hret rfl (Or.inl ⟨rfl, Or.inl rfl, _, rfl⟩) (hb hby d27_4) hr) ?_ (by decide) (by decide)
  show Q_sbLen Z _ _ h0 n0 _ T1.heap _
  rw [e1]
  exact ⟨rfl, N1, rfl⟩
theorem d16_0 : decode jdk_68_method_68_code 0 = .ok (.getstatic 18, 3) := by decide +kernel
theorem d16_3 : decode jdk_68_method_68_code 3 = .ok (.ifCond .eq 14, 3) := by decide +kernel
theorem d16_6 : decode jdk_68_method_68_code 6 = .ok (.aload_n 0, 1) := by decide +kernel
theorem d16_7 : decode jdk_68_method_68_code 7 = .ok (.getfield 22, 3) := by decide +kernel
theorem d16_10 : decode jdk_68_method_68_code 10 = .ok (.ifCond .ne 7, 3) := by decide +kernel
theorem d16_13 : decode jdk_68_method_68_code 13 = .ok (.iconst 1, 1) := by decide +kernel
theorem d16_14 : decode jdk_68_method_68_code 14 = .ok (.goto 4, 3) := by decide +kernel
theorem d16_18 : decode jdk_68_method_68_code 18 = .ok (.ireturn, 1) := by decide +kernel
theorem ef_asbLat (m : MethodId) (x0 : Addr) : entryFrame m #[(.ref x0)] 1 = mkF m 0 #[.val (.ref x0)] [] := by first | (simp [entryFrame, mkF, argsToLocals, Value.category]; done) | rfl
def Q_asbLat (Z : State) (a1 : Addr) (G1 : Int32) (h0 : Heap) (n0 : Nat) (v : Option Value) (h : Heap) (L : List Loc) : Prop := v = some (.int (1 : Int32)) ∧ Fr n0 L ∧ (h = h0)
set_option maxRecDepth 65536 in
set_option maxHeartbeats 40000000 in
theorem asbLat (l : Launch) (Z : State) (a0 : Array Value) (hw : ∀ d ∈ tables_1, d.before a0 Z = true) (ws : List Jvm.Cond) (a1 : Addr) (G1 : Int32) (h0 : Heap) (n0 : Nat) (Z0 : n0 ≤ h0.size) (Fc : Fld Z h0 a1 "java/lang/AbstractStringBuilder" "coder" "B" (.int (0 : Int32))) (O2 : Sta Z Z.heap "java/lang/String" "COMPACT_STRINGS" "Z" (.int G1)) (P5 : ¬ (G1 = (0 : Int32))) (Od : Old Z n0 h0) :
    MetFree l (⟨"java/lang/AbstractStringBuilder", "isLatin1", "()Z"⟩ : MethodName) (head1 (Jvm.Cond.code (⟨"java/lang/AbstractStringBuilder", "isLatin1", "()Z"⟩ : MethodName) jdk_68_method_68_code 1 (some .boolean) :: ws) ({ frames := 0, cells := 0, slots := 0, locals := 0 } : Room)) (fun a U => a = #[(.ref a1)] ∧ Z.Warmed39 U.vm ∧ U.heap = h0) (fun _ _ _ _ _ => True) (fun _ U o U' => ∃ v L, o = .returned v ∧ Q_asbLat Z a1 G1 h0 n0 v U'.heap L ∧ FrameEnd U o U' L ({ frames := 0, cells := 0, slots := 0, locals := 0 } : Room).cells ({ frames := 0, cells := 0, slots := 0, locals := 0 } : Room).slots) := by
  refine MetFree.of_bodySF (plainFor_of_name pn_java_lang_AbstractStringBuilder) hisR ?_
  intro p e s m args below meth c s₁ Bd hml0 hP hK
  obtain ⟨rfl, hZ, hh⟩ := hP
  have hx := Bd.exec
  have hby := Bd.bytes
  have hml : c.maxLocals = 1 := hml0
  have hown : s.vm.findClass "java/lang/AbstractStringBuilder" = some m.cls := findClass_of_methodNamed Bd.named
  have hnm := (name_of_methodNamed Bd.named Bd.method).1
  have hret : meth.sig.returnType = (some .boolean) := Bd.returns
  have hlk : meth.locks = false := BodyLoose.notSynchronized Bd
  have X0 : Stand p l e ({ frames := 0, cells := 0, slots := 0, locals := 0 } : Room) s m #[(.ref a1)] below meth c s₁ [] 0 0 := Stand.of_body Bd
  have e0 : s₁.heap = h0 := by rw [← hh, Bd.state]; rfl
  have N0 := Fr.nil n0
  have K0 : Keep h0 h0 [] := Keep.refl h0 _
  show Gl p.tables e below s (Q_asbLat Z a1 G1 h0 n0) 0 0 _
  refine Gl.pre (B := s₁.setTop (mkF m 0 #[.val (.ref a1)] [])) (fun _ k => castTop (ef_asbLat m a1) k) ?_
  obtain ⟨T1, X1, e1, st1⟩ := getS2 X0 hx hZ hown (host := "") (Or.inl (wq hw 22 rfl)) Via.refl e0 (O2.ext Od.2) (g := (mkF m 0 #[.val (.ref a1)] [])) rfl (hb hby d16_0)
  refine Gl.pre (B := T1.setTop (mkF m 7 #[.val (.ref a1)] [(.ref a1)])) (fun _ k => st1 _ (XS.ifNo X1.here hx rfl (hb hby d16_3) rfl ((if0 _ _).trans (feq (P5 : ¬ (G1 = (0 : Int32)))).1) (XS.aloadN X1.here hx rfl (hb hby d16_6) rfl rfl k))) ?_
  obtain ⟨T2, X2, e2, st2⟩ := getF X1 hx hZ hown (host := "") (Or.inl (wq hw 27 rfl)) Via.refl e1 Fc (g := (mkF m 7 #[.val (.ref a1)] [(.ref a1)])) rfl rfl (hb hby d16_7)
  refine Gl.pre (B := T2.setTop (mkF m 18 #[.val (.ref a1)] [(.int (1 : Int32))])) (fun _ k => st2 _ (XS.ifNo X2.here hx rfl (hb hby d16_10) rfl ((if0 _ _).trans (teq (by decide : (0 : Int32) = (0 : Int32))).2) (XS.iconst X2.here hx rfl (hb hby d16_13) (XS.goto X2.here hx rfl (pc0 := 14) (pc' := 18) rfl (hb hby d16_14) (by decide) (by decide) k)))) ?_
  refine Gl.out X2 (v := some (.int (1 : Int32))) (fun h => by rw [hret] at h; cases h) hlk (fun fs hr => retN X2 hx (t := .boolean) hret (by simp) (hb hby d16_18) hr) ?_ (by decide) (by decide)
  show Q_asbLat Z _ _ h0 n0 _ T2.heap _
  rw [e2]
  exact ⟨rfl, N0, rfl⟩
theorem d22_0 : decode jdk_29_method_69_code 0 = .ok (.iload_n 0, 1) := by decide +kernel
theorem d22_1 : decode jdk_29_method_69_code 1 = .ok (.iload_n 1, 1) := by decide +kernel
theorem d22_2 : decode jdk_29_method_69_code 2 = .ok (.if_icmp .gt 7, 3) := by decide +kernel
theorem d22_9 : decode jdk_29_method_69_code 9 = .ok (.iload_n 1, 1) := by decide +kernel
theorem d22_10 : decode jdk_29_method_69_code 10 = .ok (.ireturn, 1) := by decide +kernel
theorem d22_5 : decode jdk_29_method_69_code 5 = .ok (.iload_n 0, 1) := by decide +kernel
theorem d22_6 : decode jdk_29_method_69_code 6 = .ok (.goto 4, 3) := by decide +kernel
theorem ef_mathMin (m : MethodId) (x0 : Int32) (x1 : Int32) : entryFrame m #[(.int x0), (.int x1)] 2 = mkF m 0 #[.val (.int x0), .val (.int x1)] [] := by first | (simp [entryFrame, mkF, argsToLocals, Value.category]; done) | rfl
def Q_mathMin (Z : State) (p1 : Int32) (p2 : Int32) (h0 : Heap) (n0 : Nat) (v : Option Value) (h : Heap) (L : List Loc) : Prop := v = some (.int (if p2 < p1 then p2 else p1)) ∧ Fr n0 L ∧ (h = h0)
set_option maxRecDepth 65536 in
set_option maxHeartbeats 40000000 in
theorem mathMin (l : Launch) (Z : State) (a0 : Array Value) (hw : ∀ d ∈ tables_1, d.before a0 Z = true) (ws : List Jvm.Cond) (p1 : Int32) (p2 : Int32) (h0 : Heap) (n0 : Nat) (Z0 : n0 ≤ h0.size)  :
    MetFree l (⟨"java/lang/Math", "min", "(II)I"⟩ : MethodName) (head1 (Jvm.Cond.code (⟨"java/lang/Math", "min", "(II)I"⟩ : MethodName) jdk_29_method_69_code 2 (some .int) :: ws) ({ frames := 0, cells := 0, slots := 0, locals := 0 } : Room)) (fun a U => a = #[(.int p1), (.int p2)] ∧ Z.Warmed39 U.vm ∧ U.heap = h0) (fun _ _ _ _ _ => True) (fun _ U o U' => ∃ v L, o = .returned v ∧ Q_mathMin Z p1 p2 h0 n0 v U'.heap L ∧ FrameEnd U o U' L ({ frames := 0, cells := 0, slots := 0, locals := 0 } : Room).cells ({ frames := 0, cells := 0, slots := 0, locals := 0 } : Room).slots) := by
  refine MetFree.of_bodySF (Jvm.Free.JP.mathPlain rfl (by decide +kernel)) hisR ?_
  intro p e s m args below meth c s₁ Bd hml0 hP hK
  obtain ⟨rfl, hZ, hh⟩ := hP
  have hx := Bd.exec
  have hby := Bd.bytes
  have hml : c.maxLocals = 2 := hml0
  have hown : s.vm.findClass "java/lang/Math" = some m.cls := findClass_of_methodNamed Bd.named
  have hnm := (name_of_methodNamed Bd.named Bd.method).1
  have hret : meth.sig.returnType = (some .int) := Bd.returns
  have hlk : meth.locks = false := BodyLoose.notSynchronized Bd
  have X0 : Stand p l e ({ frames := 0, cells := 0, slots := 0, locals := 0 } : Room) s m #[(.int p1), (.int p2)] below meth c s₁ [] 0 0 := Stand.of_body Bd
  have e0 : s₁.heap = h0 := by rw [← hh, Bd.state]; rfl
  have N0 := Fr.nil n0
  have K0 : Keep h0 h0 [] := Keep.refl h0 _
  show Gl p.tables e below s (Q_mathMin Z p1 p2 h0 n0) 0 0 _
  refine Gl.pre (B := s₁.setTop (mkF m 0 #[.val (.int p1), .val (.int p2)] [])) (fun _ k => castTop (ef_mathMin m p1 p2) k) ?_
  refine Gl.pre (B := s₁.setTop (mkF m 2 #[.val (.int p1), .val (.int p2)] [(.int p2), (.int p1)])) (fun _ k => XS.iloadN X0.here hx rfl (hb hby d22_0) rfl (XS.iloadN X0.here hx rfl (hb hby d22_1) rfl k)) ?_
  by_cases hc2_1 : p2 < p1
  · refine Gl.pre (B := s₁.setTop (mkF m 10 #[.val (.int p1), .val (.int p2)] [(.int p2)])) (fun _ k => XS.icmpYes X0.here hx rfl (pc0 := 2) (pc' := 9) rfl (hb hby d22_2) rfl (tlt hc2_1).2.2.1 (by decide) (by decide) (XS.iloadN X0.here hx rfl (hb hby d22_9) rfl k)) ?_
    refine Gl.out X0 (v := some (.int p2)) (fun h => by rw [hret] at h; cases h) hlk (fun fs hr => retOut X0 hx hret rfl (Or.inl ⟨rfl, Or.inl rfl, _, rfl⟩) (hb hby d22_10) hr) ?_ (by decide) (by decide)
    show Q_mathMin Z _ _ h0 n0 _ s₁.heap _
    rw [e0]
    exact ⟨by simp [hc2_1], N0, rfl⟩
  · refine Gl.pre (B := s₁.setTop (mkF m 10 #[.val (.int p1), .val (.int p2)] [(.int p1)])) (fun _ k => XS.icmpNo X0.here hx rfl (hb hby d22_2) rfl (flt hc2_1).2.2.1 (XS.iloadN X0.here hx rfl (hb hby d22_5) rfl (XS.goto X0.here hx rfl (pc0 := 6) (pc' := 10) rfl (hb hby d22_6) (by decide) (by decide) k))) ?_
    refine Gl.out X0 (v := some (.int p1)) (fun h => by rw [hret] at h; cases h) hlk (fun fs hr => retOut X0 hx hret rfl (Or.inl ⟨rfl, Or.inl rfl, _, rfl⟩) (hb hby d22_10) hr) ?_ (by decide) (by decide)
    show Q_mathMin Z _ _ h0 n0 _ s₁.heap _
    rw [e0]
    exact ⟨by simp [hc2_1], N0, rfl⟩
theorem d31_0 : decode jdk_65_method_131_code 0 = .ok (.iload_n 1, 1) := by decide +kernel
theorem d31_1 : decode jdk_65_method_131_code 1 = .ok (.iload_n 0, 1) := by decide +kernel
theorem d31_2 : decode jdk_65_method_131_code 2 = .ok (.if_icmp .ge 35, 3) := by decide +kernel
theorem d31_37 : decode jdk_65_method_131_code 37 = .ok (.return_, 1) := by decide +kernel
theorem pn_java_util_Arrays : plainName "java/util/Arrays" = true := by first | (simp [plainName, overriddenIn]; done) | decide +kernel
theorem ef_chkLen (m : MethodId) (x0 : Int32) (x1 : Int32) : entryFrame m #[(.int x0), (.int x1)] 2 = mkF m 0 #[.val (.int x0), .val (.int x1)] [] := by first | (simp [entryFrame, mkF, argsToLocals, Value.category]; done) | rfl
def Q_chkLen (Z : State) (p1 : Int32) (p2 : Int32) (h0 : Heap) (n0 : Nat) (v : Option Value) (h : Heap) (L : List Loc) : Prop := v = none ∧ Fr n0 L ∧ (h = h0)
set_option maxRecDepth 65536 in
set_option maxHeartbeats 40000000 in
theorem chkLen (l : Launch) (Z : State) (a0 : Array Value) (hw : ∀ d ∈ tables_1, d.before a0 Z = true) (ws : List Jvm.Cond) (p1 : Int32) (p2 : Int32) (h0 : Heap) (n0 : Nat) (Z0 : n0 ≤ h0.size) (hge : ¬ p2 < p1) :
    MetFree l (⟨"java/util/Arrays", "checkLength", "(II)V"⟩ : MethodName) (head1 (Jvm.Cond.code (⟨"java/util/Arrays", "checkLength", "(II)V"⟩ : MethodName) jdk_65_method_131_code 2 none :: ws) ({ frames := 0, cells := 0, slots := 0, locals := 0 } : Room)) (fun a U => a = #[(.int p1), (.int p2)] ∧ Z.Warmed39 U.vm ∧ U.heap = h0) (fun _ _ _ _ _ => True) (fun _ U o U' => ∃ v L, o = .returned v ∧ Q_chkLen Z p1 p2 h0 n0 v U'.heap L ∧ FrameEnd U o U' L ({ frames := 0, cells := 0, slots := 0, locals := 0 } : Room).cells ({ frames := 0, cells := 0, slots := 0, locals := 0 } : Room).slots) := by
  refine MetFree.of_bodySF (plainFor_of_name pn_java_util_Arrays) hisR ?_
  intro p e s m args below meth c s₁ Bd hml0 hP hK
  obtain ⟨rfl, hZ, hh⟩ := hP
  have hx := Bd.exec
  have hby := Bd.bytes
  have hml : c.maxLocals = 2 := hml0
  have hown : s.vm.findClass "java/util/Arrays" = some m.cls := findClass_of_methodNamed Bd.named
  have hnm := (name_of_methodNamed Bd.named Bd.method).1
  have hret : meth.sig.returnType = none := Bd.returns
  have hlk : meth.locks = false := BodyLoose.notSynchronized Bd
  have X0 : Stand p l e ({ frames := 0, cells := 0, slots := 0, locals := 0 } : Room) s m #[(.int p1), (.int p2)] below meth c s₁ [] 0 0 := Stand.of_body Bd
  have e0 : s₁.heap = h0 := by rw [← hh, Bd.state]; rfl
  have N0 := Fr.nil n0
  have K0 : Keep h0 h0 [] := Keep.refl h0 _
  show Gl p.tables e below s (Q_chkLen Z p1 p2 h0 n0) 0 0 _
  refine Gl.pre (B := s₁.setTop (mkF m 0 #[.val (.int p1), .val (.int p2)] [])) (fun _ k => castTop (ef_chkLen m p1 p2) k) ?_
  refine Gl.pre (B := s₁.setTop (mkF m 37 #[.val (.int p1), .val (.int p2)] [])) (fun _ k => XS.iloadN X0.here hx rfl (hb hby d31_0) rfl (XS.iloadN X0.here hx rfl (hb hby d31_1) rfl (XS.icmpYes X0.here hx rfl (pc0 := 2) (pc' := 37) rfl (hb hby d31_2) rfl (flt (hge : ¬ (p2 < p1))).2.1 (by decide) (by decide) k))) ?_
  refine Gl.out X0 (v := none) (fun _ => rfl) hlk (fun fs hr => X0.returnOut hx hret (hb hby d31_37) hr) ?_ (by decide) (by decide)
  show Q_chkLen Z _ _ h0 n0 _ s₁.heap _
  rw [e0]
  exact ⟨rfl, N0, rfl⟩
theorem pd_8 : parseMethodDescriptor "(II)V" = some ⟨[.int, .int], none⟩ := by decide +kernel
theorem pd_9 : parseMethodDescriptor "(II)I" = some ⟨[.int, .int], some .int⟩ := by decide +kernel
theorem d30_0 : decode jdk_65_method_133_code 0 = .ok (.iload_n 1, 1) := by decide +kernel
theorem d30_1 : decode jdk_65_method_133_code 1 = .ok (.iload_n 2, 1) := by decide +kernel
theorem d30_2 : decode jdk_65_method_133_code 2 = .ok (.invokestatic 343, 3) := by decide +kernel
theorem d30_5 : decode jdk_65_method_133_code 5 = .ok (.iload_n 2, 1) := by decide +kernel
theorem d30_6 : decode jdk_65_method_133_code 6 = .ok (.iload_n 1, 1) := by decide +kernel
theorem d30_7 : decode jdk_65_method_133_code 7 = .ok (.isub, 1) := by decide +kernel
theorem d30_8 : decode jdk_65_method_133_code 8 = .ok (.istore_n 3, 1) := by decide +kernel
theorem d30_9 : decode jdk_65_method_133_code 9 = .ok (.iload_n 3, 1) := by decide +kernel
theorem d30_10 : decode jdk_65_method_133_code 10 = .ok (.newarray .byte, 2) := by decide +kernel
theorem d30_12 : decode jdk_65_method_133_code 12 = .ok (.astore 4, 2) := by decide +kernel
theorem d30_14 : decode jdk_65_method_133_code 14 = .ok (.aload_n 0, 1) := by decide +kernel
theorem d30_15 : decode jdk_65_method_133_code 15 = .ok (.iload_n 1, 1) := by decide +kernel
theorem d30_16 : decode jdk_65_method_133_code 16 = .ok (.aload 4, 2) := by decide +kernel
theorem d30_18 : decode jdk_65_method_133_code 18 = .ok (.iconst 0, 1) := by decide +kernel
theorem d30_19 : decode jdk_65_method_133_code 19 = .ok (.aload_n 0, 1) := by decide +kernel
theorem d30_20 : decode jdk_65_method_133_code 20 = .ok (.arraylength, 1) := by decide +kernel
theorem d30_21 : decode jdk_65_method_133_code 21 = .ok (.iload_n 1, 1) := by decide +kernel
theorem d30_22 : decode jdk_65_method_133_code 22 = .ok (.isub, 1) := by decide +kernel
theorem d30_23 : decode jdk_65_method_133_code 23 = .ok (.iload_n 3, 1) := by decide +kernel
theorem d30_24 : decode jdk_65_method_133_code 24 = .ok (.invokestatic 304, 3) := by decide +kernel
theorem d30_27 : decode jdk_65_method_133_code 27 = .ok (.invokestatic 150, 3) := by decide +kernel
theorem d30_30 : decode jdk_65_method_133_code 30 = .ok (.aload 4, 2) := by decide +kernel
theorem d30_32 : decode jdk_65_method_133_code 32 = .ok (.areturn, 1) := by decide +kernel
theorem ef_corB (m : MethodId) (x0 : Addr) (x1 : Int32) (x2 : Int32) : entryFrame m #[(.ref x0), (.int x1), (.int x2)] 5 = mkF m 0 #[.val (.ref x0), .val (.int x1), .val (.int x2), .unset, .unset] [] := by first | (simp [entryFrame, mkF, argsToLocals, Value.category]; done) | rfl
def Q_corB (Z : State) (a1 : Addr) (p3 : Int32) (k : ClassId) (cap : Nat) (cs : List Int32) (h0 : Heap) (n0 : Nat) (v : Option Value) (h : Heap) (L : List Loc) : Prop := ∃ tt : Addr, ∃ kk : ClassId, v = some (.ref tt) ∧ Fr n0 L ∧ (Keep h0 h []) ∧ (h0.size ≤ tt) ∧ (Arv Z h tt kk .byte p3 (byt cs) (.int 0))
set_option maxRecDepth 65536 in
set_option maxHeartbeats 40000000 in
theorem corB (l : Launch) (Z : State) (a0 : Array Value) (hw : ∀ d ∈ tables_1, d.before a0 Z = true) (ws : List Jvm.Cond) (a1 : Addr) (p3 : Int32) (k : ClassId) (cap : Nat) (cs : List Int32) (h0 : Heap) (n0 : Nat) (Z0 : n0 ≤ h0.size) (V_a1 : Arv Z h0 a1 k .byte (Int32.ofNat cap) (byt cs ++ List.replicate (cap - cs.length) (.int 0)) (.int 0)) (hl : cs.length < cap) (hcap : cap ≤ 64) (hp : p3 = Int32.ofNat cs.length) :
    MetFree l (⟨"java/util/Arrays", "copyOfRangeByte", "([BII)[B"⟩ : MethodName) (head1 (Jvm.Cond.code (⟨"java/util/Arrays", "copyOfRangeByte", "([BII)[B"⟩ : MethodName) jdk_65_method_133_code 5 (some (.array .byte)) :: ws) ({ frames := 1, cells := 1, slots := 64, locals := 40 } : Room)) (fun a U => a = #[(.ref a1), (.int (0 : Int32)), (.int p3)] ∧ Z.Warmed39 U.vm ∧ U.heap = h0) (fun _ _ _ _ _ => True) (fun _ U o U' => ∃ v L, o = .returned v ∧ Q_corB Z a1 p3 k cap cs h0 n0 v U'.heap L ∧ FrameEnd U o U' L ({ frames := 1, cells := 1, slots := 64, locals := 40 } : Room).cells ({ frames := 1, cells := 1, slots := 64, locals := 40 } : Room).slots) := by
  refine MetFree.of_bodySF (plainFor_of_name pn_java_util_Arrays) hisR ?_
  intro p e s m args below meth c s₁ Bd hml0 hP hK
  obtain ⟨rfl, hZ, hh⟩ := hP
  have hx := Bd.exec
  have hby := Bd.bytes
  have hml : c.maxLocals = 5 := hml0
  have hown : s.vm.findClass "java/util/Arrays" = some m.cls := findClass_of_methodNamed Bd.named
  have hnm := (name_of_methodNamed Bd.named Bd.method).1
  have hret : meth.sig.returnType = (some (.array .byte)) := Bd.returns
  have hlk : meth.locks = false := BodyLoose.notSynchronized Bd
  have X0 : Stand p l e ({ frames := 1, cells := 1, slots := 64, locals := 40 } : Room) s m #[(.ref a1), (.int (0 : Int32)), (.int p3)] below meth c s₁ [] 0 0 := Stand.of_body Bd
  have e0 : s₁.heap = h0 := by rw [← hh, Bd.state]; rfl
  have N0 := Fr.nil n0
  have K0 : Keep h0 h0 [] := Keep.refl h0 _
  show Gl p.tables e below s (Q_corB Z a1 p3 k cap cs h0 n0) 1 64 _
  refine Gl.pre (B := s₁.setTop (mkF m 0 #[.val (.ref a1), .val (.int (0 : Int32)), .val (.int p3), .unset, .unset] [])) (fun _ k => castTop (ef_corB m a1 (0 : Int32) p3) k) ?_
  refine Gl.pre (B := s₁.setTop (mkF m 2 #[.val (.ref a1), .val (.int (0 : Int32)), .val (.int p3), .unset, .unset] [(.int p3), (.int (0 : Int32))])) (fun _ k => XS.iloadN X0.here hx rfl (hb hby d30_0) rfl (XS.iloadN X0.here hx rfl (hb hby d30_1) rfl k)) ?_
  obtain ⟨rv1, _, ⟨T1, L1, k1, n1⟩, -, X1, ⟨Lc1, hQ1, l1, y1, z1⟩, st1⟩ := Jvm.LawKit.callS X0 hx (y := (⟨"java/util/Arrays", "checkLength", "(II)V"⟩ : MethodName)) hown (mvT hZ (wq hw 165 rfl)) (mvT hZ (wq hw 166 rfl)) (mvT hZ (wq hw 125 rfl)) (mvT hZ (wq hw 167 rfl)) (by decide) (backOf (W := 0) (chkLen l Z a0 hw [] (0 : Int32) p3 h0 n0 Z0 (by rw [hp]; exact own_nn (by omega))) hZ (wq hw 167 rfl) (wq hw 125 rfl) (by decide) (by decide)) (g := (mkF m 2 #[.val (.ref a1), .val (.int (0 : Int32)), .val (.int p3), .unset, .unset] [(.int p3), (.int (0 : Int32))])) rfl (by rw [hml]; rfl) (argsL := [(.int (0 : Int32)), (.int p3)]) (rest := []) (lenOf pd_8 rfl) rfl (by show 2 * 0 + _ ≤ _; exact Nat.le_of_eq rfl) (hb hby d30_2) (fun _ _ => ⟨rfl, e0, (by decide : 0 + 0 ≤ _), (by decide : 0 + 0 ≤ _)⟩)
  dsimp only [Pt.U, Pt.locs, Pt.cells, Pt.slots] at X1 l1 y1 z1 st1 hQ1
  have X1 := own_reb X1 l1 y1 z1
  obtain ⟨rfl, N1q, e1⟩ := hQ1
  have N1 := Fr.app N0 N1q
  refine Gl.pre (B := T1.setTop (mkF m 8 #[.val (.ref a1), .val (.int (0 : Int32)), .val (.int p3), .unset, .unset] [(.int (p3 - (0 : Int32)))])) (fun _ k => st1 _ (XS.iloadN X1.here hx rfl (hb hby d30_5) rfl (XS.iloadN X1.here hx rfl (hb hby d30_6) rfl (XS.isub X1.here hx rfl (hb hby d30_7) rfl k)))) ?_
  rw [own_sub0]
  refine Gl.pre (B := T1.setTop (mkF m 10 #[.val (.ref a1), .val (.int (0 : Int32)), .val (.int p3), .val (.int p3), .unset] [(.int p3)])) (fun _ k => XS.istoreN X1.here hx rfl (hb hby d30_8) rfl (l' := #[.val (.ref a1), .val (.int (0 : Int32)), .val (.int p3), .val (.int p3), .unset]) rfl (XS.iloadN X1.here hx rfl (hb hby d30_9) rfl k)) ?_
  obtain ⟨T2, h2, k2, X2, e2, E2, A2, st2⟩ := newP X1 hx hZ (wq hw 24 rfl) e1 (g := (mkF m 10 #[.val (.ref a1), .val (.int (0 : Int32)), .val (.int p3), .val (.int p3), .unset] [(.int p3)])) rfl (hb hby d30_10) rfl (by rw [hp]; exact own_nn (by omega)) (cap := 64) (by rw [hp, own_n32 (by omega)]; omega) (by decide) (by decide) (by decide)
  obtain ⟨b2, g2⟩ : ∃ z, z = h0.size := ⟨_, rfl⟩
  rw [← g2] at A2 st2
  have g_b2 : n0 ≤ b2 := Nat.le_trans Z0 (Nat.le_of_eq g2.symm)
  have sz_b2 : h0.size ≤ b2 := Nat.le_trans K0.1 (Nat.le_of_eq g2.symm)
  have Z0 := Nat.le_trans Z0 E2.1
  have V_a1 := V_a1.ext E2
  have K0 := K0.ext E2
  have V_b2 : Arv Z h2 b2 k2 .byte p3 (List.replicate cs.length (.int (0 : Int32))) (.int (0 : Int32)) := (Arv.new A2 (by rw [hp]; exact own_nn (by omega))).pad (pad_rep [] (.int (0 : Int32)) cs.length)
  refine Gl.pre (B := T2.setTop (mkF m 20 #[.val (.ref a1), .val (.int (0 : Int32)), .val (.int p3), .val (.int p3), .val (.ref b2)] [(.ref a1), (.int (0 : Int32)), (.ref b2), (.int (0 : Int32)), (.ref a1)])) (fun _ k => st2 _ (XS.astore X2.here hx rfl (hb hby d30_12) rfl rfl (l' := #[.val (.ref a1), .val (.int (0 : Int32)), .val (.int p3), .val (.int p3), .val (.ref b2)]) rfl (XS.aloadN X2.here hx rfl (hb hby d30_14) rfl rfl (XS.iloadN X2.here hx rfl (hb hby d30_15) rfl (XS.aload X2.here hx rfl (hb hby d30_16) rfl rfl (XS.iconst X2.here hx rfl (hb hby d30_18) (XS.aloadN X2.here hx rfl (hb hby d30_19) rfl rfl k))))))) ?_
  obtain ⟨cl3, Ar3, -, Sz3, Nn3, -, -⟩ := id V_a1
  refine Gl.pre (B := T2.setTop (mkF m 21 #[.val (.ref a1), .val (.int (0 : Int32)), .val (.int p3), .val (.int p3), .val (.ref b2)] [(.int (Int32.ofNat cap)), (.int (0 : Int32)), (.ref b2), (.int (0 : Int32)), (.ref a1)])) (fun _ k => ?_) ?_
  · refine X2.arraylength hx (by rw [e2]; exact Ar3.1) (State.isArrayOf_alike hZ.alike Ar3.2.1) (g := (mkF m 20 #[.val (.ref a1), .val (.int (0 : Int32)), .val (.int p3), .val (.int p3), .val (.ref b2)] [(.ref a1), (.int (0 : Int32)), (.ref b2), (.int (0 : Int32)), (.ref a1)])) rfl rfl (hb hby d30_20) _ ?_
    rw [len_of Sz3 Nn3]
    exact k
  refine Gl.pre (B := T2.setTop (mkF m 23 #[.val (.ref a1), .val (.int (0 : Int32)), .val (.int p3), .val (.int p3), .val (.ref b2)] [(.int ((Int32.ofNat cap) - (0 : Int32))), (.int (0 : Int32)), (.ref b2), (.int (0 : Int32)), (.ref a1)])) (fun _ k => XS.iloadN X2.here hx rfl (hb hby d30_21) rfl (XS.isub X2.here hx rfl (hb hby d30_22) rfl k)) ?_
  rw [own_sub0]
  refine Gl.pre (B := T2.setTop (mkF m 24 #[.val (.ref a1), .val (.int (0 : Int32)), .val (.int p3), .val (.int p3), .val (.ref b2)] [(.int p3), (.int (Int32.ofNat cap)), (.int (0 : Int32)), (.ref b2), (.int (0 : Int32)), (.ref a1)])) (fun _ k => XS.iloadN X2.here hx rfl (hb hby d30_23) rfl k) ?_
  obtain ⟨rv4, _, ⟨T4, L4, k4, n4⟩, -, X4, ⟨Lc4, hQ4, l4, y4, z4⟩, st4⟩ := Jvm.LawKit.callS X2 hx (y := (⟨"java/lang/Math", "min", "(II)I"⟩ : MethodName)) hown (mvT hZ (wq hw 127 rfl)) (mvT hZ (wq hw 128 rfl)) (mvT hZ (wq hw 119 rfl)) (mvT hZ (wq hw 129 rfl)) (by decide) (backOf (W := 4) (mathMin l Z a0 hw [] (Int32.ofNat cap) p3 h2 n0 Z0 ) hZ (wq hw 129 rfl) (wq hw 119 rfl) (by decide) (by decide)) (g := (mkF m 24 #[.val (.ref a1), .val (.int (0 : Int32)), .val (.int p3), .val (.int p3), .val (.ref b2)] [(.int p3), (.int (Int32.ofNat cap)), (.int (0 : Int32)), (.ref b2), (.int (0 : Int32)), (.ref a1)])) rfl (by rw [hml]; rfl) (argsL := [(.int (Int32.ofNat cap)), (.int p3)]) (rest := [(.int (0 : Int32)), (.ref b2), (.int (0 : Int32)), (.ref a1)]) (lenOf pd_9 rfl) rfl (by show 2 * 0 + _ ≤ _; exact Nat.le_of_eq rfl) (hb hby d30_24) (fun _ _ => ⟨rfl, e2, (by decide : 1 + 0 ≤ _), (by decide : 64 + 0 ≤ _)⟩)
  dsimp only [Pt.U, Pt.locs, Pt.cells, Pt.slots] at X4 l4 y4 z4 st4 hQ4
  have X4 := own_reb X4 l4 y4 z4
  obtain ⟨rfl, N4q, e4⟩ := hQ4
  have N4 := Fr.app N1 N4q
  refine Gl.pre (B := T4.setTop (mkF m 27 #[.val (.ref a1), .val (.int (0 : Int32)), .val (.int p3), .val (.int p3), .val (.ref b2)] [(.int (if p3 < (Int32.ofNat cap) then p3 else (Int32.ofNat cap))), (.int (0 : Int32)), (.ref b2), (.int (0 : Int32)), (.ref a1)])) (fun _ k => st4 _ k) ?_
  rw [show (if p3 < (Int32.ofNat cap) then p3 else (Int32.ofNat cap)) = p3 from by rw [if_pos (by rw [hp, Int32.lt_iff_toInt_lt, own_toInt (by omega), own_toInt (by omega)]; omega)]]
  obtain ⟨T5, h5, L5, X5, e5, N5, K5, V5, st5⟩ := cpA X4 hx hZ hown (wq hw 130 rfl) (wq hw 84 rfl) (wq hw 82 rfl) (wq hw 83 rfl) e4 V_a1 V_b2 (Or.inl ⟨rfl, rfl⟩) (us := (byt cs)) (by decide) (by decide) (by rw [hp]; exact own_nn (by omega)) (by rw [hp, own_n32 (by omega), own_n32 (by omega)]; exact Nat.le_trans (Nat.le_of_eq (Nat.zero_add _)) (by omega)) (by rw [hp, own_n32 (by omega)]; exact Nat.le_of_eq (Nat.zero_add _)) (own_us2 _ _ _ (by rw [hp, own_n32 (by omega), byt_len])) (by rw [hp, own_n32 (by omega), List.length_replicate]; exact Nat.le_of_eq (Nat.zero_add _)) N4 g_b2 (g := (mkF m 27 #[.val (.ref a1), .val (.int (0 : Int32)), .val (.int p3), .val (.int p3), .val (.ref b2)] [(.int p3), (.int (0 : Int32)), (.ref b2), (.int (0 : Int32)), (.ref a1)])) rfl (by rw [hml]; rfl) rfl (hb hby d30_27) (by decide) (W := 0) (by show 2 * 0 + _ ≤ _; exact Nat.le_of_eq rfl) (by decide)
  have K0 := K0.trans K5 (allS (Or.inr sz_b2) all0)
  have V_b2 : Arv Z h5 b2 k2 .byte p3 (byt cs) (.int (0 : Int32)) := (by have q := V5; rw [hp, own_n32 (by omega)] at q; rw [hp]; exact (sb_out (byt_len cs).symm) ▸ q)
  refine Gl.pre (B := T5.setTop (mkF m 32 #[.val (.ref a1), .val (.int (0 : Int32)), .val (.int p3), .val (.int p3), .val (.ref b2)] [(.ref b2)])) (fun _ k => st5 _ (XS.aload X5.here hx rfl (hb hby d30_30) rfl rfl k)) ?_
  refine Gl.out X5 (v := some (.ref b2)) (fun h => by rw [hret] at h; cases h) hlk (fun fs hr => retOut X5 hx hret rfl (Or.inr (Or.inr (Or.inr (Or.inr ⟨rfl, rfl, rfl⟩)))) (hb hby d30_32) hr) ?_ (by decide) (by decide)
  show Q_corB Z _ _ _ _ _ h0 n0 _ T5.heap _
  rw [e5]
  exact ⟨b2, _, rfl, N5, K0, sz_b2, V_b2⟩
theorem pd_10 : parseMethodDescriptor "([BII)[B" = some ⟨[(.array .byte), .int, .int], some (.array .byte)⟩ := by decide +kernel
theorem d29_0 : decode jdk_65_method_132_code 0 = .ok (.iload_n 1, 1) := by decide +kernel
theorem d29_1 : decode jdk_65_method_132_code 1 = .ok (.ifCond .ne 9, 3) := by decide +kernel
theorem d29_4 : decode jdk_65_method_132_code 4 = .ok (.iload_n 2, 1) := by decide +kernel
theorem d29_5 : decode jdk_65_method_132_code 5 = .ok (.aload_n 0, 1) := by decide +kernel
theorem d29_6 : decode jdk_65_method_132_code 6 = .ok (.arraylength, 1) := by decide +kernel
theorem d29_7 : decode jdk_65_method_132_code 7 = .ok (.if_icmp .eq 10, 3) := by decide +kernel
theorem d29_10 : decode jdk_65_method_132_code 10 = .ok (.aload_n 0, 1) := by decide +kernel
theorem d29_11 : decode jdk_65_method_132_code 11 = .ok (.iload_n 1, 1) := by decide +kernel
theorem d29_12 : decode jdk_65_method_132_code 12 = .ok (.iload_n 2, 1) := by decide +kernel
theorem d29_13 : decode jdk_65_method_132_code 13 = .ok (.invokestatic 339, 3) := by decide +kernel
theorem d29_16 : decode jdk_65_method_132_code 16 = .ok (.areturn, 1) := by decide +kernel
theorem ef_cor (m : MethodId) (x0 : Addr) (x1 : Int32) (x2 : Int32) : entryFrame m #[(.ref x0), (.int x1), (.int x2)] 3 = mkF m 0 #[.val (.ref x0), .val (.int x1), .val (.int x2)] [] := by first | (simp [entryFrame, mkF, argsToLocals, Value.category]; done) | rfl
def Q_cor (Z : State) (a1 : Addr) (p3 : Int32) (k : ClassId) (cap : Nat) (cs : List Int32) (h0 : Heap) (n0 : Nat) (v : Option Value) (h : Heap) (L : List Loc) : Prop := ∃ tt : Addr, ∃ kk : ClassId, v = some (.ref tt) ∧ Fr n0 L ∧ (Keep h0 h []) ∧ (h0.size ≤ tt) ∧ (Arv Z h tt kk .byte p3 (byt cs) (.int 0))
set_option maxRecDepth 65536 in
set_option maxHeartbeats 40000000 in
theorem cor (l : Launch) (Z : State) (a0 : Array Value) (hw : ∀ d ∈ tables_1, d.before a0 Z = true) (ws : List Jvm.Cond) (a1 : Addr) (p3 : Int32) (k : ClassId) (cap : Nat) (cs : List Int32) (h0 : Heap) (n0 : Nat) (Z0 : n0 ≤ h0.size) (V_a1 : Arv Z h0 a1 k .byte (Int32.ofNat cap) (byt cs ++ List.replicate (cap - cs.length) (.int 0)) (.int 0)) (hl : cs.length < cap) (hcap : cap ≤ 64) (hp : p3 = Int32.ofNat cs.length) :
    MetFree l (⟨"java/util/Arrays", "copyOfRange", "([BII)[B"⟩ : MethodName) (head1 (Jvm.Cond.code (⟨"java/util/Arrays", "copyOfRange", "([BII)[B"⟩ : MethodName) jdk_65_method_132_code 3 (some (.array .byte)) :: ws) ({ frames := 2, cells := 1, slots := 64, locals := 56 } : Room)) (fun a U => a = #[(.ref a1), (.int (0 : Int32)), (.int p3)] ∧ Z.Warmed39 U.vm ∧ U.heap = h0) (fun _ _ _ _ _ => True) (fun _ U o U' => ∃ v L, o = .returned v ∧ Q_cor Z a1 p3 k cap cs h0 n0 v U'.heap L ∧ FrameEnd U o U' L ({ frames := 2, cells := 1, slots := 64, locals := 56 } : Room).cells ({ frames := 2, cells := 1, slots := 64, locals := 56 } : Room).slots) := by
  refine MetFree.of_bodySF (plainFor_of_name pn_java_util_Arrays) hisR ?_
  intro p e s m args below meth c s₁ Bd hml0 hP hK
  obtain ⟨rfl, hZ, hh⟩ := hP
  have hx := Bd.exec
  have hby := Bd.bytes
  have hml : c.maxLocals = 3 := hml0
  have hown : s.vm.findClass "java/util/Arrays" = some m.cls := findClass_of_methodNamed Bd.named
  have hnm := (name_of_methodNamed Bd.named Bd.method).1
  have hret : meth.sig.returnType = (some (.array .byte)) := Bd.returns
  have hlk : meth.locks = false := BodyLoose.notSynchronized Bd
  have X0 : Stand p l e ({ frames := 2, cells := 1, slots := 64, locals := 56 } : Room) s m #[(.ref a1), (.int (0 : Int32)), (.int p3)] below meth c s₁ [] 0 0 := Stand.of_body Bd
  have e0 : s₁.heap = h0 := by rw [← hh, Bd.state]; rfl
  have N0 := Fr.nil n0
  have K0 : Keep h0 h0 [] := Keep.refl h0 _
  show Gl p.tables e below s (Q_cor Z a1 p3 k cap cs h0 n0) 1 64 _
  refine Gl.pre (B := s₁.setTop (mkF m 0 #[.val (.ref a1), .val (.int (0 : Int32)), .val (.int p3)] [])) (fun _ k => castTop (ef_cor m a1 (0 : Int32) p3) k) ?_
  refine Gl.pre (B := s₁.setTop (mkF m 6 #[.val (.ref a1), .val (.int (0 : Int32)), .val (.int p3)] [(.ref a1), (.int p3)])) (fun _ k => XS.iloadN X0.here hx rfl (hb hby d29_0) rfl (XS.ifNo X0.here hx rfl (hb hby d29_1) rfl ((if0 _ _).trans (teq (by decide : (0 : Int32) = (0 : Int32))).2) (XS.iloadN X0.here hx rfl (hb hby d29_4) rfl (XS.aloadN X0.here hx rfl (hb hby d29_5) rfl rfl k)))) ?_
  obtain ⟨cl1, Ar1, -, Sz1, Nn1, -, -⟩ := id V_a1
  refine Gl.pre (B := s₁.setTop (mkF m 7 #[.val (.ref a1), .val (.int (0 : Int32)), .val (.int p3)] [(.int (Int32.ofNat cap)), (.int p3)])) (fun _ k => ?_) ?_
  · refine X0.arraylength hx (by rw [e0]; exact Ar1.1) (State.isArrayOf_alike hZ.alike Ar1.2.1) (g := (mkF m 6 #[.val (.ref a1), .val (.int (0 : Int32)), .val (.int p3)] [(.ref a1), (.int p3)])) rfl rfl (hb hby d29_6) _ ?_
    rw [len_of Sz1 Nn1]
    exact k
  refine Gl.pre (B := s₁.setTop (mkF m 13 #[.val (.ref a1), .val (.int (0 : Int32)), .val (.int p3)] [(.int p3), (.int (0 : Int32)), (.ref a1)])) (fun _ k => XS.icmpNo X0.here hx rfl (hb hby d29_7) rfl (feq ((by rw [hp, ← Int32.toInt_inj, own_toInt (by omega), own_toInt (by omega)]; omega) : ¬ (p3 = (Int32.ofNat cap)))).1 (XS.aloadN X0.here hx rfl (hb hby d29_10) rfl rfl (XS.iloadN X0.here hx rfl (hb hby d29_11) rfl (XS.iloadN X0.here hx rfl (hb hby d29_12) rfl k)))) ?_
  obtain ⟨rv2, _, ⟨T2, L2, k2, n2⟩, -, X2, ⟨Lc2, hQ2, l2, y2, z2⟩, st2⟩ := Jvm.LawKit.callS X0 hx (y := (⟨"java/util/Arrays", "copyOfRangeByte", "([BII)[B"⟩ : MethodName)) hown (mvT hZ (wq hw 162 rfl)) (mvT hZ (wq hw 163 rfl)) (mvT hZ (wq hw 125 rfl)) (mvT hZ (wq hw 164 rfl)) (by decide) (backOf (W := 0) (corB l Z a0 hw [] a1 p3 k cap cs h0 n0 Z0 V_a1 hl hcap hp) hZ (wq hw 164 rfl) (wq hw 125 rfl) (by decide) (by decide)) (g := (mkF m 13 #[.val (.ref a1), .val (.int (0 : Int32)), .val (.int p3)] [(.int p3), (.int (0 : Int32)), (.ref a1)])) rfl (by rw [hml]; rfl) (argsL := [(.ref a1), (.int (0 : Int32)), (.int p3)]) (rest := []) (lenOf pd_10 rfl) rfl (by show 2 * 0 + _ ≤ _; exact Nat.le_of_eq rfl) (hb hby d29_13) (fun _ _ => ⟨rfl, e0, (by decide : 0 + 1 ≤ _), (by decide : 0 + 64 ≤ _)⟩)
  dsimp only [Pt.U, Pt.locs, Pt.cells, Pt.slots] at X2 l2 y2 z2 st2 hQ2
  have X2 := own_reb X2 l2 y2 z2
  obtain ⟨tt_2, kk_2, rfl, N2q, K2, nz_tt_2, V_2⟩ := hQ2
  have N2 := Fr.app N0 N2q
  have K0 := K0.trans K2 (fun _ q => nomatch q)
  refine Gl.pre (B := T2.setTop (mkF m 16 #[.val (.ref a1), .val (.int (0 : Int32)), .val (.int p3)] [(.ref tt_2)])) (fun _ k => st2 _ k) ?_
  refine Gl.out X2 (v := some (.ref tt_2)) (fun h => by rw [hret] at h; cases h) hlk (fun fs hr => retOut X2 hx hret rfl (Or.inr (Or.inr (Or.inr (Or.inr ⟨rfl, rfl, rfl⟩)))) (hb hby d29_16) hr) ?_ (by decide) (by decide)
  show Q_cor Z _ _ _ _ _ h0 n0 _ T2.heap _
  exact ⟨tt_2, _, rfl, N2, K0, nz_tt_2, V_2⟩
theorem pd_11 : parseMethodDescriptor "()[B" = some ⟨[], some (.array .byte)⟩ := by decide +kernel
theorem pd_12 : parseMethodDescriptor "()Z" = some ⟨[], some .boolean⟩ := by decide +kernel
theorem d25_0 : decode jdk_42_method_150_code 0 = .ok (.aload_n 0, 1) := by decide +kernel
theorem d25_1 : decode jdk_42_method_150_code 1 = .ok (.invokespecial 1, 3) := by decide +kernel
theorem d25_4 : decode jdk_42_method_150_code 4 = .ok (.aload_n 1, 1) := by decide +kernel
theorem d25_5 : decode jdk_42_method_150_code 5 = .ok (.invokevirtual 552, 3) := by decide +kernel
theorem d25_8 : decode jdk_42_method_150_code 8 = .ok (.astore_n 3, 1) := by decide +kernel
theorem d25_9 : decode jdk_42_method_150_code 9 = .ok (.aload_n 1, 1) := by decide +kernel
theorem d25_10 : decode jdk_42_method_150_code 10 = .ok (.invokevirtual 549, 3) := by decide +kernel
theorem d25_13 : decode jdk_42_method_150_code 13 = .ok (.istore 4, 2) := by decide +kernel
theorem d25_15 : decode jdk_42_method_150_code 15 = .ok (.aload_n 1, 1) := by decide +kernel
theorem d25_16 : decode jdk_42_method_150_code 16 = .ok (.invokevirtual 1047, 3) := by decide +kernel
theorem d25_19 : decode jdk_42_method_150_code 19 = .ok (.ifCond .eq 22, 3) := by decide +kernel
theorem d25_22 : decode jdk_42_method_150_code 22 = .ok (.aload_n 0, 1) := by decide +kernel
theorem d25_23 : decode jdk_42_method_150_code 23 = .ok (.iconst 0, 1) := by decide +kernel
theorem d25_24 : decode jdk_42_method_150_code 24 = .ok (.putfield 15, 3) := by decide +kernel
theorem d25_27 : decode jdk_42_method_150_code 27 = .ok (.aload_n 0, 1) := by decide +kernel
theorem d25_28 : decode jdk_42_method_150_code 28 = .ok (.aload_n 3, 1) := by decide +kernel
theorem d25_29 : decode jdk_42_method_150_code 29 = .ok (.iconst 0, 1) := by decide +kernel
theorem d25_30 : decode jdk_42_method_150_code 30 = .ok (.iload 4, 2) := by decide +kernel
theorem d25_32 : decode jdk_42_method_150_code 32 = .ok (.invokestatic 54, 3) := by decide +kernel
theorem d25_35 : decode jdk_42_method_150_code 35 = .ok (.putfield 9, 3) := by decide +kernel
theorem d25_38 : decode jdk_42_method_150_code 38 = .ok (.goto 59, 3) := by decide +kernel
theorem d25_97 : decode jdk_42_method_150_code 97 = .ok (.return_, 1) := by decide +kernel
theorem ef_strOfA (m : MethodId) (x0 : Addr) (x1 : Addr) : entryFrame m #[(.ref x0), (.ref x1), .null] 5 = mkF m 0 #[.val (.ref x0), .val (.ref x1), .val .null, .unset, .unset] [] := by first | (simp [entryFrame, mkF, argsToLocals, Value.category]; done) | rfl
def Q_strOfA (Z : State) (a1 : Addr) (a2 : Addr) (t : Addr) (k : ClassId) (cap : Nat) (cs : List Int32) (G1 : Int32) (h0 : Heap) (n0 : Nat) (v : Option Value) (h : Heap) (L : List Loc) : Prop := ∃ tt : Addr, ∃ kk : ClassId, v = none ∧ Fr n0 L ∧ (Keep h0 h [a1]) ∧ (h0.size ≤ tt) ∧ (StrV Z h a1 tt kk cs)
set_option maxRecDepth 65536 in
set_option maxHeartbeats 40000000 in
theorem strOfA (l : Launch) (Z : State) (a0 : Array Value) (hw : ∀ d ∈ tables_1, d.before a0 Z = true) (ws : List Jvm.Cond) (a1 : Addr) (a2 : Addr) (t : Addr) (k : ClassId) (cap : Nat) (cs : List Int32) (G1 : Int32) (h0 : Heap) (n0 : Nat) (Z0 : n0 ≤ h0.size) (g_a1 : n0 ≤ a1) (E_a1 : Exa Z h0 a1 "java/lang/String") (F_value_a1 : Fld Z h0 a1 "java/lang/String" "value" "[B" .null) (F_coder_a1 : Fld Z h0 a1 "java/lang/String" "coder" "B" (.int (0 : Int32))) (sb : SBs Z h0 a2 t k cap cs) (hta : t ≠ a1) (h2a : a2 ≠ a1) (hl : cs.length < cap) (hcap : cap ≤ 64) (O2 : Sta Z Z.heap "java/lang/String" "COMPACT_STRINGS" "Z" (.int G1)) (P5 : ¬ (G1 = (0 : Int32))) (Od : Old Z n0 h0) :
    MetFree l (⟨"java/lang/String", "<init>", "(Ljava/lang/AbstractStringBuilder;Ljava/lang/Void;)V"⟩ : MethodName) (head1 (Jvm.Cond.code (⟨"java/lang/String", "<init>", "(Ljava/lang/AbstractStringBuilder;Ljava/lang/Void;)V"⟩ : MethodName) jdk_42_method_150_code 5 none :: ws) ({ frames := 3, cells := 1, slots := 64, locals := 71 } : Room)) (fun a U => a = #[(.ref a1), (.ref a2), .null] ∧ Z.Warmed39 U.vm ∧ U.heap = h0) (fun _ _ _ _ _ => True) (fun _ U o U' => ∃ v L, o = .returned v ∧ Q_strOfA Z a1 a2 t k cap cs G1 h0 n0 v U'.heap L ∧ FrameEnd U o U' L ({ frames := 3, cells := 1, slots := 64, locals := 71 } : Room).cells ({ frames := 3, cells := 1, slots := 64, locals := 71 } : Room).slots) := by
  refine MetFree.of_bodySF (plainFor_of_name pn_java_lang_String) hisR ?_
  intro p e s m args below meth c s₁ Bd hml0 hP hK
  obtain ⟨rfl, hZ, hh⟩ := hP
  have hx := Bd.exec
  have hby := Bd.bytes
  have hml : c.maxLocals = 5 := hml0
  have hown : s.vm.findClass "java/lang/String" = some m.cls := findClass_of_methodNamed Bd.named
  have hnm := (name_of_methodNamed Bd.named Bd.method).1
  have hret : meth.sig.returnType = none := Bd.returns
  have hlk : meth.locks = false := BodyLoose.notSynchronized Bd
  have X0 : Stand p l e ({ frames := 3, cells := 1, slots := 64, locals := 71 } : Room) s m #[(.ref a1), (.ref a2), .null] below meth c s₁ [] 0 0 := Stand.of_body Bd
  have e0 : s₁.heap = h0 := by rw [← hh, Bd.state]; rfl
  have N0 := Fr.nil n0
  have K0 : Keep h0 h0 [a1] := Keep.refl h0 _
  show Gl p.tables e below s (Q_strOfA Z a1 a2 t k cap cs G1 h0 n0) 1 64 _
  refine Gl.pre (B := s₁.setTop (mkF m 0 #[.val (.ref a1), .val (.ref a2), .val .null, .unset, .unset] [])) (fun _ k => castTop (ef_strOfA m a1 a2) k) ?_
  obtain ⟨E_a2, Fv_a2, Fc_a2, Fn_a2, V_t, hl_a2, hc_a2, hb_a2⟩ := id sb
  refine Gl.pre (B := s₁.setTop (mkF m 1 #[.val (.ref a1), .val (.ref a2), .val .null, .unset, .unset] [(.ref a1)])) (fun _ k => XS.aloadN X0.here hx rfl (hb hby d25_0) rfl rfl k) ?_
  obtain ⟨T1, X1, e1, st1⟩ := initO X0 hx hZ hown (wq hw 144 rfl) (wq hw 20 rfl) (wq hw 21 rfl) e0 (g := (mkF m 1 #[.val (.ref a1), .val (.ref a2), .val .null, .unset, .unset] [(.ref a1)])) rfl (by rw [hml]; rfl) rfl (hb hby d25_1) (by decide) (W := 0) (by show 2 * 0 + _ ≤ _; exact Nat.le_of_eq rfl) (by decide)
  refine Gl.pre (B := T1.setTop (mkF m 5 #[.val (.ref a1), .val (.ref a2), .val .null, .unset, .unset] [(.ref a2)])) (fun _ k => st1 _ (XS.aloadN X1.here hx rfl (hb hby d25_4) rfl rfl k)) ?_
  obtain ⟨cq2, kq2, q2a, q2b, q2c⟩ := isOf hZ e1 E_a2
  obtain ⟨rv2, _, ⟨T2, L2, k2, n2⟩, -, X2, ⟨Lc2, hQ2, l2, y2, z2⟩, st2⟩ := X1.virtualBack hx (y := (⟨"java/lang/AbstractStringBuilder", "getValue", "()[B"⟩ : MethodName)) (z := (⟨"java/lang/AbstractStringBuilder", "getValue", "()[B"⟩ : MethodName)) hown (mvT hZ (wq hw 145 rfl)) (mvT hZ (wq hw 146 rfl)) (notFace_of_selects (args := #[]) (mvT hZ (wq hw 148 rfl))) (mvT hZ (wq hw 148 rfl)) (mvT hZ (wq hw 147 rfl)) (by decide) (backOf (W := 0) (getVal l Z a0 hw [] a2 t h0 n0 Z0 Fv_a2) hZ (wq hw 149 rfl) (wq hw 17 rfl) (by decide) (by decide)) q2a q2c (g := (mkF m 5 #[.val (.ref a1), .val (.ref a2), .val .null, .unset, .unset] [(.ref a2)])) rfl (by rw [hml]; rfl) (Steps.refl _) (argsL := []) (rest := []) (lenOf pd_11 rfl) rfl (by show 2 * 0 + _ ≤ _; exact Nat.le_of_eq rfl) (hb hby d25_5) (fun _ _ => ⟨rfl, e1, (by decide : 0 + 0 ≤ _), (by decide : 0 + 0 ≤ _)⟩)
  dsimp only [Pt.U, Pt.locs, Pt.cells, Pt.slots] at X2 l2 y2 z2 st2 hQ2
  have X2 := own_reb X2 l2 y2 z2
  obtain ⟨rfl, N2q, e2⟩ := hQ2
  have N2 := Fr.app N0 N2q
  refine Gl.pre (B := T2.setTop (mkF m 10 #[.val (.ref a1), .val (.ref a2), .val .null, .val (.ref t), .unset] [(.ref a2)])) (fun _ k => st2.trans (XS.astoreN X2.here hx rfl (hb hby d25_8) rfl rfl (l' := #[.val (.ref a1), .val (.ref a2), .val .null, .val (.ref t), .unset]) rfl (XS.aloadN X2.here hx rfl (hb hby d25_9) rfl rfl k))) ?_
  obtain ⟨cq3, kq3, q3a, q3b, q3c⟩ := isOf hZ e2 E_a2
  obtain ⟨rv3, _, ⟨T3, L3, k3, n3⟩, -, X3, ⟨Lc3, hQ3, l3, y3, z3⟩, st3⟩ := X2.virtualBack hx (y := (⟨"java/lang/AbstractStringBuilder", "length", "()I"⟩ : MethodName)) (z := (⟨"java/lang/StringBuilder", "length", "()I"⟩ : MethodName)) hown (mvT hZ (wq hw 150 rfl)) (mvT hZ (wq hw 151 rfl)) (own_nf (args := #[]) (y := (⟨"java/lang/AbstractStringBuilder", "length", "()I"⟩ : MethodName)) (mvT hZ (wq hw 63 rfl)) rfl) (mvT hZ (wq hw 153 rfl)) (mvT hZ (wq hw 154 rfl)) (by decide) (backOf (W := 0) (sbLen l Z a0 hw [] a2 (Int32.ofNat cs.length) h0 n0 Z0 E_a2 Fn_a2) hZ (wq hw 155 rfl) (wq hw 9 rfl) (by decide) (by decide)) q3a q3c (g := (mkF m 10 #[.val (.ref a1), .val (.ref a2), .val .null, .val (.ref t), .unset] [(.ref a2)])) rfl (by rw [hml]; rfl) (Steps.refl _) (argsL := []) (rest := []) (lenOf pd_5 rfl) rfl (by show 2 * 0 + _ ≤ _; exact Nat.le_of_eq rfl) (hb hby d25_10) (fun _ _ => ⟨rfl, e2, (by decide : 0 + 0 ≤ _), (by decide : 0 + 0 ≤ _)⟩)
  dsimp only [Pt.U, Pt.locs, Pt.cells, Pt.slots] at X3 l3 y3 z3 st3 hQ3
  have X3 := own_reb X3 l3 y3 z3
  obtain ⟨rfl, N3q, e3⟩ := hQ3
  have N3 := Fr.app N2 N3q
  refine Gl.pre (B := T3.setTop (mkF m 16 #[.val (.ref a1), .val (.ref a2), .val .null, .val (.ref t), .val (.int (Int32.ofNat cs.length))] [(.ref a2)])) (fun _ k => st3.trans (XS.istore X3.here hx rfl (hb hby d25_13) rfl (l' := #[.val (.ref a1), .val (.ref a2), .val .null, .val (.ref t), .val (.int (Int32.ofNat cs.length))]) rfl (XS.aloadN X3.here hx rfl (hb hby d25_15) rfl rfl k))) ?_
  obtain ⟨cq4, kq4, q4a, q4b, q4c⟩ := isOf hZ e3 E_a2
  obtain ⟨rv4, _, ⟨T4, L4, k4, n4⟩, -, X4, ⟨Lc4, hQ4, l4, y4, z4⟩, st4⟩ := X3.virtualBack hx (y := (⟨"java/lang/AbstractStringBuilder", "isLatin1", "()Z"⟩ : MethodName)) (z := (⟨"java/lang/AbstractStringBuilder", "isLatin1", "()Z"⟩ : MethodName)) hown (mvT hZ (wq hw 158 rfl)) (mvT hZ (wq hw 99 rfl)) (notFace_of_selects (args := #[]) (mvT hZ (wq hw 101 rfl))) (mvT hZ (wq hw 101 rfl)) (mvT hZ (wq hw 100 rfl)) (by decide) (backOf (W := 0) (asbLat l Z a0 hw [] a2 G1 h0 n0 Z0 Fc_a2 O2 P5 Od) hZ (wq hw 102 rfl) (wq hw 17 rfl) (by decide) (by decide)) q4a q4c (g := (mkF m 16 #[.val (.ref a1), .val (.ref a2), .val .null, .val (.ref t), .val (.int (Int32.ofNat cs.length))] [(.ref a2)])) rfl (by rw [hml]; rfl) (Steps.refl _) (argsL := []) (rest := []) (lenOf pd_12 rfl) rfl (by show 2 * 0 + _ ≤ _; exact Nat.le_of_eq rfl) (hb hby d25_16) (fun _ _ => ⟨rfl, e3, (by decide : 0 + 0 ≤ _), (by decide : 0 + 0 ≤ _)⟩)
  dsimp only [Pt.U, Pt.locs, Pt.cells, Pt.slots] at X4 l4 y4 z4 st4 hQ4
  have X4 := own_reb X4 l4 y4 z4
  obtain ⟨rfl, N4q, e4⟩ := hQ4
  have N4 := Fr.app N3 N4q
  refine Gl.pre (B := T4.setTop (mkF m 24 #[.val (.ref a1), .val (.ref a2), .val .null, .val (.ref t), .val (.int (Int32.ofNat cs.length))] [(.int (0 : Int32)), (.ref a1)])) (fun _ k => st4.trans (XS.ifNo X4.here hx rfl (hb hby d25_19) rfl ((if0 _ _).trans (feq (by decide : ¬ ((1 : Int32) = (0 : Int32)))).1) (XS.aloadN X4.here hx rfl (hb hby d25_22) rfl rfl (XS.iconst X4.here hx rfl (hb hby d25_23) k)))) ?_
  obtain ⟨T5, h5, X5, e5, W5, st5⟩ := putFN X4 hx hZ hown (wq hw 57 rfl) Via.refl e4 F_coder_a1 E_a1 (Or.inr ⟨(wq hw 32 rfl), rfl, hnm⟩) (wq hw 30 rfl) (ty := .byte) (v' := (.int (0 : Int32))) (by decide) rfl rfl (g := (mkF m 24 #[.val (.ref a1), .val (.ref a2), .val .null, .val (.ref t), .val (.int (Int32.ofNat cs.length))] [(.int (0 : Int32)), (.ref a1)])) rfl rfl (hb hby d25_24)
  have N5 := Fr.snoc X5 N4 g_a1
  have F_coder_a1_n := F_coder_a1.same W5
  have Z0 := Nat.le_trans Z0 (Keep.of_wr W5).1
  have E_a1 := E_a1.wr W5
  have F_value_a1 := F_value_a1.other W5 (Or.inr (slot_ne (Or.inr (wq hw 31 rfl)) (Or.inr (wq hw 32 rfl)) (by decide) (t := (.array .byte)) (t' := .byte) (by decide) (by decide)))
  have K0 := K0.wr W5 (Or.inl (List.mem_of_getElem? (i := 0) rfl))
  have V_t := V_t.other W5 hta
  have F_coder_a1 := F_coder_a1_n
  refine Gl.pre (B := T5.setTop (mkF m 32 #[.val (.ref a1), .val (.ref a2), .val .null, .val (.ref t), .val (.int (Int32.ofNat cs.length))] [(.int (Int32.ofNat cs.length)), (.int (0 : Int32)), (.ref t), (.ref a1)])) (fun _ k => st5 _ (XS.aloadN X5.here hx rfl (hb hby d25_27) rfl rfl (XS.aloadN X5.here hx rfl (hb hby d25_28) rfl rfl (XS.iconst X5.here hx rfl (hb hby d25_29) (XS.iload X5.here hx rfl (hb hby d25_30) rfl k))))) ?_
  obtain ⟨rv6, _, ⟨T6, L6, k6, n6⟩, -, X6, ⟨Lc6, hQ6, l6, y6, z6⟩, st6⟩ := Jvm.LawKit.callS X5 hx (y := (⟨"java/util/Arrays", "copyOfRange", "([BII)[B"⟩ : MethodName)) hown (mvT hZ (wq hw 159 rfl)) (mvT hZ (wq hw 160 rfl)) (mvT hZ (wq hw 125 rfl)) (mvT hZ (wq hw 161 rfl)) (by decide) (backOf (W := 1) (cor l Z a0 hw [] t (Int32.ofNat cs.length) k cap cs h5 n0 Z0 V_t hl hcap rfl) hZ (wq hw 161 rfl) (wq hw 125 rfl) (by decide) (by decide)) (g := (mkF m 32 #[.val (.ref a1), .val (.ref a2), .val .null, .val (.ref t), .val (.int (Int32.ofNat cs.length))] [(.int (Int32.ofNat cs.length)), (.int (0 : Int32)), (.ref t), (.ref a1)])) rfl (by rw [hml]; rfl) (argsL := [(.ref t), (.int (0 : Int32)), (.int (Int32.ofNat cs.length))]) (rest := [(.ref a1)]) (lenOf pd_10 rfl) rfl (by show 2 * 0 + _ ≤ _; exact Nat.le_of_eq rfl) (hb hby d25_32) (fun _ _ => ⟨rfl, e5, (by decide : 0 + 1 ≤ _), (by decide : 0 + 64 ≤ _)⟩)
  dsimp only [Pt.U, Pt.locs, Pt.cells, Pt.slots] at X6 l6 y6 z6 st6 hQ6
  have X6 := own_reb X6 l6 y6 z6
  obtain ⟨tt_6, kk_6, rfl, N6q, K6, nz_tt_6, V_6⟩ := hQ6
  have N6 := Fr.app N5 N6q
  have ne_a1_tt_6 : a1 ≠ tt_6 := Nat.ne_of_lt (Nat.lt_of_lt_of_le E_a1.lt nz_tt_6)
  have sz_tt_6 : h0.size ≤ tt_6 := Nat.le_trans K0.1 nz_tt_6
  have E_a1 := E_a1.keep K6
  have F_value_a1 := F_value_a1.keep K6 nin0
  have K0 := K0.trans K6 (fun _ q => nomatch q)
  have F_coder_a1 := F_coder_a1.keep K6 nin0
  have nz_s := sz_tt_6
  refine Gl.pre (B := T6.setTop (mkF m 35 #[.val (.ref a1), .val (.ref a2), .val .null, .val (.ref t), .val (.int (Int32.ofNat cs.length))] [(.ref tt_6), (.ref a1)])) (fun _ k => st6 _ k) ?_
  obtain ⟨T7, h7, X7, e7, W7, st7⟩ := putF X6 hx hZ hown (host := "") (Or.inl (wq hw 50 rfl)) Via.refl rfl F_value_a1 E_a1 (Or.inr ⟨(wq hw 31 rfl), rfl, hnm⟩) (wq hw 30 rfl) (ty := (.array .byte)) (by decide) rfl rfl (g := (mkF m 35 #[.val (.ref a1), .val (.ref a2), .val .null, .val (.ref t), .val (.int (Int32.ofNat cs.length))] [(.ref tt_6), (.ref a1)])) rfl rfl (hb hby d25_35)
  have N7 := Fr.snoc X7 N6 g_a1
  have F_value_a1_n := F_value_a1.same W7
  have E_a1 := E_a1.wr W7
  have K0 := K0.wr W7 (Or.inl (List.mem_of_getElem? (i := 0) rfl))
  have F_coder_a1 := F_coder_a1.other W7 (Or.inr (slot_ne (Or.inr (wq hw 32 rfl)) (Or.inr (wq hw 31 rfl)) (by decide) (t := .byte) (t' := (.array .byte)) (by decide) (by decide)))
  have V_6 := V_6.other W7 (Ne.symm ne_a1_tt_6)
  have F_value_a1 := F_value_a1_n
  refine Gl.pre (B := T7.setTop (mkF m 97 #[.val (.ref a1), .val (.ref a2), .val .null, .val (.ref t), .val (.int (Int32.ofNat cs.length))] [])) (fun _ k => st7 _ (XS.goto X7.here hx rfl (pc0 := 38) (pc' := 97) rfl (hb hby d25_38) (by decide) (by decide) k)) ?_
  refine Gl.out X7 (v := none) (fun _ => rfl) hlk (fun fs hr => X7.returnOut hx hret (hb hby d25_97) hr) ?_ (by decide) (by decide)
  show Q_strOfA Z _ _ _ _ _ _ _ h0 n0 _ T7.heap _
  rw [e7]
  exact ⟨tt_6, kk_6, rfl, N7, K0, nz_s, E_a1, F_value_a1, F_coder_a1, V_6, hb_a2, by omega⟩
theorem pd_13 : parseMethodDescriptor "(Ljava/lang/AbstractStringBuilder;Ljava/lang/Void;)V" = some ⟨[(.object "java/lang/AbstractStringBuilder"), (.object "java/lang/Void")], none⟩ := by decide +kernel
theorem d24_0 : decode jdk_42_method_53_code 0 = .ok (.aload_n 0, 1) := by decide +kernel
theorem d24_1 : decode jdk_42_method_53_code 1 = .ok (.aload_n 1, 1) := by decide +kernel
theorem d24_2 : decode jdk_42_method_53_code 2 = .ok (.aconst_null, 1) := by decide +kernel
theorem d24_3 : decode jdk_42_method_53_code 3 = .ok (.invokespecial 489, 3) := by decide +kernel
theorem d24_6 : decode jdk_42_method_53_code 6 = .ok (.return_, 1) := by decide +kernel
theorem ef_strOfB (m : MethodId) (x0 : Addr) (x1 : Addr) : entryFrame m #[(.ref x0), (.ref x1)] 2 = mkF m 0 #[.val (.ref x0), .val (.ref x1)] [] := by first | (simp [entryFrame, mkF, argsToLocals, Value.category]; done) | rfl
def Q_strOfB (Z : State) (a1 : Addr) (a2 : Addr) (t : Addr) (k : ClassId) (cap : Nat) (cs : List Int32) (G1 : Int32) (h0 : Heap) (n0 : Nat) (v : Option Value) (h : Heap) (L : List Loc) : Prop := ∃ tt : Addr, ∃ kk : ClassId, v = none ∧ Fr n0 L ∧ (Keep h0 h [a1]) ∧ (h0.size ≤ tt) ∧ (StrV Z h a1 tt kk cs)
set_option maxRecDepth 65536 in
set_option maxHeartbeats 40000000 in
theorem strOfB (l : Launch) (Z : State) (a0 : Array Value) (hw : ∀ d ∈ tables_1, d.before a0 Z = true) (ws : List Jvm.Cond) (a1 : Addr) (a2 : Addr) (t : Addr) (k : ClassId) (cap : Nat) (cs : List Int32) (G1 : Int32) (h0 : Heap) (n0 : Nat) (Z0 : n0 ≤ h0.size) (g_a1 : n0 ≤ a1) (E_a1 : Exa Z h0 a1 "java/lang/String") (F_value_a1 : Fld Z h0 a1 "java/lang/String" "value" "[B" .null) (F_coder_a1 : Fld Z h0 a1 "java/lang/String" "coder" "B" (.int (0 : Int32))) (sb : SBs Z h0 a2 t k cap cs) (hta : t ≠ a1) (h2a : a2 ≠ a1) (hl : cs.length < cap) (hcap : cap ≤ 64) (O2 : Sta Z Z.heap "java/lang/String" "COMPACT_STRINGS" "Z" (.int G1)) (P5 : ¬ (G1 = (0 : Int32))) (Od : Old Z n0 h0) :
    MetFree l (⟨"java/lang/String", "<init>", "(Ljava/lang/StringBuilder;)V"⟩ : MethodName) (head1 (Jvm.Cond.code (⟨"java/lang/String", "<init>", "(Ljava/lang/StringBuilder;)V"⟩ : MethodName) jdk_42_method_53_code 2 none :: ws) ({ frames := 4, cells := 1, slots := 64, locals := 87 } : Room)) (fun a U => a = #[(.ref a1), (.ref a2)] ∧ Z.Warmed39 U.vm ∧ U.heap = h0) (fun _ _ _ _ _ => True) (fun _ U o U' => ∃ v L, o = .returned v ∧ Q_strOfB Z a1 a2 t k cap cs G1 h0 n0 v U'.heap L ∧ FrameEnd U o U' L ({ frames := 4, cells := 1, slots := 64, locals := 87 } : Room).cells ({ frames := 4, cells := 1, slots := 64, locals := 87 } : Room).slots) := by
  refine MetFree.of_bodySF (plainFor_of_name pn_java_lang_String) hisR ?_
  intro p e s m args below meth c s₁ Bd hml0 hP hK
  obtain ⟨rfl, hZ, hh⟩ := hP
  have hx := Bd.exec
  have hby := Bd.bytes
  have hml : c.maxLocals = 2 := hml0
  have hown : s.vm.findClass "java/lang/String" = some m.cls := findClass_of_methodNamed Bd.named
  have hnm := (name_of_methodNamed Bd.named Bd.method).1
  have hret : meth.sig.returnType = none := Bd.returns
  have hlk : meth.locks = false := BodyLoose.notSynchronized Bd
  have X0 : Stand p l e ({ frames := 4, cells := 1, slots := 64, locals := 87 } : Room) s m #[(.ref a1), (.ref a2)] below meth c s₁ [] 0 0 := Stand.of_body Bd
  have e0 : s₁.heap = h0 := by rw [← hh, Bd.state]; rfl
  have N0 := Fr.nil n0
  have K0 : Keep h0 h0 [a1] := Keep.refl h0 _
  show Gl p.tables e below s (Q_strOfB Z a1 a2 t k cap cs G1 h0 n0) 1 64 _
  refine Gl.pre (B := s₁.setTop (mkF m 0 #[.val (.ref a1), .val (.ref a2)] [])) (fun _ k => castTop (ef_strOfB m a1 a2) k) ?_
  refine Gl.pre (B := s₁.setTop (mkF m 3 #[.val (.ref a1), .val (.ref a2)] [.null, (.ref a2), (.ref a1)])) (fun _ k => XS.aloadN X0.here hx rfl (hb hby d24_0) rfl rfl (XS.aloadN X0.here hx rfl (hb hby d24_1) rfl rfl (XS.aconstNull X0.here hx rfl (hb hby d24_2) k))) ?_
  obtain ⟨rv1, _, ⟨T1, L1, k1, n1⟩, -, X1, ⟨Lc1, hQ1, l1, y1, z1⟩, st1⟩ := X0.specialBack hx (y := (⟨"java/lang/String", "<init>", "(Ljava/lang/AbstractStringBuilder;Ljava/lang/Void;)V"⟩ : MethodName)) rfl hown (mvT hZ (wq hw 141 rfl)) (mvT hZ (wq hw 142 rfl)) (mvT hZ (wq hw 143 rfl)) (by decide) (backOf (W := 0) (strOfA l Z a0 hw [] a1 a2 t k cap cs G1 h0 n0 Z0 g_a1 E_a1 F_value_a1 F_coder_a1 sb hta h2a hl hcap O2 P5 Od) hZ (wq hw 143 rfl) (wq hw 23 rfl) (by decide) (by decide)) (g := (mkF m 3 #[.val (.ref a1), .val (.ref a2)] [.null, (.ref a2), (.ref a1)])) rfl (by rw [hml]; rfl) (Steps.refl _) (a := a1) (argsL := [(.ref a2), .null]) (rest := []) (lenOf pd_13 rfl) rfl (by show 2 * 0 + _ ≤ _; exact Nat.le_of_eq rfl) (hb hby d24_3) (fun _ _ => ⟨rfl, e0, (by decide : 0 + 1 ≤ _), (by decide : 0 + 64 ≤ _)⟩)
  dsimp only [Pt.U, Pt.locs, Pt.cells, Pt.slots] at X1 l1 y1 z1 st1 hQ1
  have X1 := own_reb X1 l1 y1 z1
  obtain ⟨tt_1, kk_1, rfl, N1q, K1, nz_tt_1, sv_1⟩ := hQ1
  have N1 := Fr.app N0 N1q
  have K0 := K0.trans K1 (allS (Or.inl (List.mem_of_getElem? (i := 0) rfl)) all0)
  refine Gl.pre (B := T1.setTop (mkF m 6 #[.val (.ref a1), .val (.ref a2)] [])) (fun _ k => st1.trans k) ?_
  refine Gl.out X1 (v := none) (fun _ => rfl) hlk (fun fs hr => X1.returnOut hx hret (hb hby d24_6) hr) ?_ (by decide) (by decide)
  show Q_strOfB Z _ _ _ _ _ _ _ h0 n0 _ T1.heap _
  exact ⟨_, _, rfl, N1, K0, nz_tt_1, sv_1⟩
theorem pd_14 : parseMethodDescriptor "(Ljava/lang/StringBuilder;)V" = some ⟨[(.object "java/lang/StringBuilder")], none⟩ := by decide +kernel
theorem d23_0 : decode jdk_67_method_42_code 0 = .ok (.new 18, 3) := by decide +kernel
theorem d23_3 : decode jdk_67_method_42_code 3 = .ok (.dup, 1) := by decide +kernel
theorem d23_4 : decode jdk_67_method_42_code 4 = .ok (.aload_n 0, 1) := by decide +kernel
theorem d23_5 : decode jdk_67_method_42_code 5 = .ok (.invokespecial 137, 3) := by decide +kernel
theorem d23_8 : decode jdk_67_method_42_code 8 = .ok (.areturn, 1) := by decide +kernel
theorem ef_sbToS (m : MethodId) (x0 : Addr) : entryFrame m #[(.ref x0)] 1 = mkF m 0 #[.val (.ref x0)] [] := by first | (simp [entryFrame, mkF, argsToLocals, Value.category]; done) | rfl
def Q_sbToS (Z : State) (a1 : Addr) (t : Addr) (k : ClassId) (cap : Nat) (cs : List Int32) (G1 : Int32) (h0 : Heap) (n0 : Nat) (v : Option Value) (h : Heap) (L : List Loc) : Prop := ∃ x : Addr, ∃ tt : Addr, ∃ kk : ClassId, v = some (.ref x) ∧ Fr n0 L ∧ (Keep h0 h []) ∧ (h0.size ≤ x) ∧ (h0.size ≤ tt) ∧ (StrV Z h x tt kk cs)
set_option maxRecDepth 65536 in
set_option maxHeartbeats 40000000 in
theorem sbToS (l : Launch) (Z : State) (a0 : Array Value) (hw : ∀ d ∈ tables_1, d.before a0 Z = true) (ws : List Jvm.Cond) (a1 : Addr) (t : Addr) (k : ClassId) (cap : Nat) (cs : List Int32) (G1 : Int32) (h0 : Heap) (n0 : Nat) (Z0 : n0 ≤ h0.size) (sb : SBs Z h0 a1 t k cap cs) (hl : cs.length < cap) (hcap : cap ≤ 64) (O2 : Sta Z Z.heap "java/lang/String" "COMPACT_STRINGS" "Z" (.int G1)) (P5 : ¬ (G1 = (0 : Int32))) (Od : Old Z n0 h0) :
    MetFree l (⟨"java/lang/StringBuilder", "toString", "()Ljava/lang/String;"⟩ : MethodName) (head1 (Jvm.Cond.code (⟨"java/lang/StringBuilder", "toString", "()Ljava/lang/String;"⟩ : MethodName) jdk_67_method_42_code 1 (some (.object "java/lang/String")) :: ws) ({ frames := 5, cells := 2, slots := 68, locals := 101 } : Room)) (fun a U => a = #[(.ref a1)] ∧ Z.Warmed39 U.vm ∧ U.heap = h0) (fun _ _ _ _ _ => True) (fun _ U o U' => ∃ v L, o = .returned v ∧ Q_sbToS Z a1 t k cap cs G1 h0 n0 v U'.heap L ∧ FrameEnd U o U' L ({ frames := 5, cells := 2, slots := 68, locals := 101 } : Room).cells ({ frames := 5, cells := 2, slots := 68, locals := 101 } : Room).slots) := by
  refine MetFree.of_bodySF (plainFor_of_name pn_java_lang_StringBuilder) hisR ?_
  intro p e s m args below meth c s₁ Bd hml0 hP hK
  obtain ⟨rfl, hZ, hh⟩ := hP
  have hx := Bd.exec
  have hby := Bd.bytes
  have hml : c.maxLocals = 1 := hml0
  have hown : s.vm.findClass "java/lang/StringBuilder" = some m.cls := findClass_of_methodNamed Bd.named
  have hnm := (name_of_methodNamed Bd.named Bd.method).1
  have hret : meth.sig.returnType = (some (.object "java/lang/String")) := Bd.returns
  have hlk : meth.locks = false := BodyLoose.notSynchronized Bd
  have X0 : Stand p l e ({ frames := 5, cells := 2, slots := 68, locals := 101 } : Room) s m #[(.ref a1)] below meth c s₁ [] 0 0 := Stand.of_body Bd
  have e0 : s₁.heap = h0 := by rw [← hh, Bd.state]; rfl
  have N0 := Fr.nil n0
  have K0 : Keep h0 h0 [] := Keep.refl h0 _
  show Gl p.tables e below s (Q_sbToS Z a1 t k cap cs G1 h0 n0) 2 68 _
  refine Gl.pre (B := s₁.setTop (mkF m 0 #[.val (.ref a1)] [])) (fun _ k => castTop (ef_sbToS m a1) k) ?_
  have V_t0 := sb.2.2.2.2.1; have E_a10 := sb.1
  obtain ⟨T1, h1, X1, e1, E1, A1, D1, -, st1⟩ := newO X0 hx hZ hown (wq hw 136 rfl) (wq hw 30 rfl) (wq hw 23 rfl) e0 (g := (mkF m 0 #[.val (.ref a1)] [])) rfl (hb hby d23_0) (by decide) (by decide)
  obtain ⟨b1, g1⟩ : ∃ z, z = h0.size := ⟨_, rfl⟩
  rw [← g1] at A1 D1 st1
  have g_b1 : n0 ≤ b1 := Nat.le_trans Z0 (Nat.le_of_eq g1.symm)
  have sz_b1 : h0.size ≤ b1 := Nat.le_trans K0.1 (Nat.le_of_eq g1.symm)
  have Z0 := Nat.le_trans Z0 E1.1
  have Od := Od.ext E1
  have sb := sb.ext E1
  have K0 := K0.ext E1
  have E_b1 := A1
  have F_value_b1 : Fld Z h1 b1 "java/lang/String" "value" "[B" .null := D1 (Or.inr (wq hw 31 rfl)) (ty := (.array .byte)) (by decide)
  have F_coder_b1 : Fld Z h1 b1 "java/lang/String" "coder" "B" (.int (0 : Int32)) := D1 (Or.inr (wq hw 32 rfl)) (ty := .byte) (by decide)
  refine Gl.pre (B := T1.setTop (mkF m 5 #[.val (.ref a1)] [(.ref a1), (.ref b1), (.ref b1)])) (fun _ k => st1 _ (XS.dup X1.here hx rfl (hb hby d23_3) rfl rfl (XS.aloadN X1.here hx rfl (hb hby d23_4) rfl rfl k))) ?_
  obtain ⟨rv2, _, ⟨T2, L2, k2, n2⟩, -, X2, ⟨Lc2, hQ2, l2, y2, z2⟩, st2⟩ := X1.specialBack hx (y := (⟨"java/lang/String", "<init>", "(Ljava/lang/StringBuilder;)V"⟩ : MethodName)) rfl hown (mvT hZ (wq hw 137 rfl)) (mvT hZ (wq hw 138 rfl)) (mvT hZ (wq hw 140 rfl)) (by decide) (backOf (W := 1) (strOfB l Z a0 hw [] b1 a1 t k cap cs G1 h1 n0 Z0 g_b1 E_b1 F_value_b1 F_coder_b1 sb (Nat.ne_of_lt (Nat.lt_of_lt_of_le V_t0.lt (Nat.le_of_eq g1.symm))) (Nat.ne_of_lt (Nat.lt_of_lt_of_le E_a10.lt (Nat.le_of_eq g1.symm))) hl hcap O2 P5 Od) hZ (wq hw 140 rfl) (wq hw 23 rfl) (by decide) (by decide)) (g := (mkF m 5 #[.val (.ref a1)] [(.ref a1), (.ref b1), (.ref b1)])) rfl (by rw [hml]; rfl) (Steps.refl _) (a := b1) (argsL := [(.ref a1)]) (rest := [(.ref b1)]) (lenOf pd_14 rfl) rfl (by show 2 * 0 + _ ≤ _; exact Nat.le_of_eq rfl) (hb hby d23_5) (fun _ _ => ⟨rfl, e1, (by decide : 1 + 1 ≤ _), (by decide : 4 + 64 ≤ _)⟩)
  dsimp only [Pt.U, Pt.locs, Pt.cells, Pt.slots] at X2 l2 y2 z2 st2 hQ2
  have X2 := own_reb X2 l2 y2 z2
  obtain ⟨tt_2, kk_2, rfl, N2q, K2, nz_tt_2, sv_2⟩ := hQ2
  have N2 := Fr.app N0 N2q
  have sz_tt_2 : h0.size ≤ tt_2 := Nat.le_trans K0.1 nz_tt_2
  have K0 := K0.trans K2 (allS (Or.inr sz_b1) all0)
  refine Gl.pre (B := T2.setTop (mkF m 8 #[.val (.ref a1)] [(.ref b1)])) (fun _ k => st2.trans k) ?_
  refine Gl.out X2 (v := some (.ref b1)) (fun h => by rw [hret] at h; cases h) hlk (fun fs hr => retOut X2 hx hret rfl (Or.inr (Or.inr (Or.inr (Or.inr ⟨rfl, rfl, rfl⟩)))) (hb hby d23_8) hr) ?_ (by decide) (by decide)
  show Q_sbToS Z _ _ _ _ _ _ h0 n0 _ T2.heap _
  exact ⟨b1, _, _, rfl, N2, K0, sz_b1, sz_tt_2, sv_2⟩
theorem d20_0 : decode jdk_29_method_65_code 0 = .ok (.iload_n 0, 1) := by decide +kernel
theorem d20_1 : decode jdk_29_method_65_code 1 = .ok (.iload_n 1, 1) := by decide +kernel
theorem d20_2 : decode jdk_29_method_65_code 2 = .ok (.if_icmp .lt 7, 3) := by decide +kernel
theorem d20_9 : decode jdk_29_method_65_code 9 = .ok (.iload_n 1, 1) := by decide +kernel
theorem d20_10 : decode jdk_29_method_65_code 10 = .ok (.ireturn, 1) := by decide +kernel
theorem d20_5 : decode jdk_29_method_65_code 5 = .ok (.iload_n 0, 1) := by decide +kernel
theorem d20_6 : decode jdk_29_method_65_code 6 = .ok (.goto 4, 3) := by decide +kernel
theorem ef_mathMax (m : MethodId) (x0 : Int32) (x1 : Int32) : entryFrame m #[(.int x0), (.int x1)] 2 = mkF m 0 #[.val (.int x0), .val (.int x1)] [] := by first | (simp [entryFrame, mkF, argsToLocals, Value.category]; done) | rfl
def Q_mathMax (Z : State) (p1 : Int32) (p2 : Int32) (h0 : Heap) (n0 : Nat) (v : Option Value) (h : Heap) (L : List Loc) : Prop := v = some (.int (if p1 < p2 then p2 else p1)) ∧ Fr n0 L ∧ (h = h0)
set_option maxRecDepth 65536 in
set_option maxHeartbeats 40000000 in
theorem mathMax (l : Launch) (Z : State) (a0 : Array Value) (hw : ∀ d ∈ tables_1, d.before a0 Z = true) (ws : List Jvm.Cond) (p1 : Int32) (p2 : Int32) (h0 : Heap) (n0 : Nat) (Z0 : n0 ≤ h0.size)  :
    MetFree l (⟨"java/lang/Math", "max", "(II)I"⟩ : MethodName) (head1 (Jvm.Cond.code (⟨"java/lang/Math", "max", "(II)I"⟩ : MethodName) jdk_29_method_65_code 2 (some .int) :: ws) ({ frames := 0, cells := 0, slots := 0, locals := 0 } : Room)) (fun a U => a = #[(.int p1), (.int p2)] ∧ Z.Warmed39 U.vm ∧ U.heap = h0) (fun _ _ _ _ _ => True) (fun _ U o U' => ∃ v L, o = .returned v ∧ Q_mathMax Z p1 p2 h0 n0 v U'.heap L ∧ FrameEnd U o U' L ({ frames := 0, cells := 0, slots := 0, locals := 0 } : Room).cells ({ frames := 0, cells := 0, slots := 0, locals := 0 } : Room).slots) := by
  refine MetFree.of_bodySF (Jvm.Free.JP.mathPlain rfl (by decide +kernel)) hisR ?_
  intro p e s m args below meth c s₁ Bd hml0 hP hK
  obtain ⟨rfl, hZ, hh⟩ := hP
  have hx := Bd.exec
  have hby := Bd.bytes
  have hml : c.maxLocals = 2 := hml0
  have hown : s.vm.findClass "java/lang/Math" = some m.cls := findClass_of_methodNamed Bd.named
  have hnm := (name_of_methodNamed Bd.named Bd.method).1
  have hret : meth.sig.returnType = (some .int) := Bd.returns
  have hlk : meth.locks = false := BodyLoose.notSynchronized Bd
  have X0 : Stand p l e ({ frames := 0, cells := 0, slots := 0, locals := 0 } : Room) s m #[(.int p1), (.int p2)] below meth c s₁ [] 0 0 := Stand.of_body Bd
  have e0 : s₁.heap = h0 := by rw [← hh, Bd.state]; rfl
  have N0 := Fr.nil n0
  have K0 : Keep h0 h0 [] := Keep.refl h0 _
  show Gl p.tables e below s (Q_mathMax Z p1 p2 h0 n0) 0 0 _
  refine Gl.pre (B := s₁.setTop (mkF m 0 #[.val (.int p1), .val (.int p2)] [])) (fun _ k => castTop (ef_mathMax m p1 p2) k) ?_
  refine Gl.pre (B := s₁.setTop (mkF m 2 #[.val (.int p1), .val (.int p2)] [(.int p2), (.int p1)])) (fun _ k => XS.iloadN X0.here hx rfl (hb hby d20_0) rfl (XS.iloadN X0.here hx rfl (hb hby d20_1) rfl k)) ?_
  by_cases hc2_1 : p1 < p2
  · refine Gl.pre (B := s₁.setTop (mkF m 10 #[.val (.int p1), .val (.int p2)] [(.int p2)])) (fun _ k => XS.icmpYes X0.here hx rfl (pc0 := 2) (pc' := 9) rfl (hb hby d20_2) rfl (tlt hc2_1).1 (by decide) (by decide) (XS.iloadN X0.here hx rfl (hb hby d20_9) rfl k)) ?_
    refine Gl.out X0 (v := some (.int p2)) (fun h => by rw [hret] at h; cases h) hlk (fun fs hr => retOut X0 hx hret rfl (Or.inl ⟨rfl, Or.inl rfl, _, rfl⟩) (hb hby d20_10) hr) ?_ (by decide) (by decide)
    show Q_mathMax Z _ _ h0 n0 _ s₁.heap _
    rw [e0]
    exact ⟨by simp [hc2_1], N0, rfl⟩
  · refine Gl.pre (B := s₁.setTop (mkF m 10 #[.val (.int p1), .val (.int p2)] [(.int p1)])) (fun _ k => XS.icmpNo X0.here hx rfl (hb hby d20_2) rfl (flt hc2_1).1 (XS.iloadN X0.here hx rfl (hb hby d20_5) rfl (XS.goto X0.here hx rfl (pc0 := 6) (pc' := 10) rfl (hb hby d20_6) (by decide) (by decide) k))) ?_
    refine Gl.out X0 (v := some (.int p1)) (fun h => by rw [hret] at h; cases h) hlk (fun fs hr => retOut X0 hx hret rfl (Or.inl ⟨rfl, Or.inl rfl, _, rfl⟩) (hb hby d20_10) hr) ?_ (by decide) (by decide)
    show Q_mathMax Z _ _ h0 n0 _ s₁.heap _
    rw [e0]
    exact ⟨by simp [hc2_1], N0, rfl⟩
theorem d19_0 : decode jdk_48_method_27_code 0 = .ok (.iload_n 0, 1) := by decide +kernel
theorem d19_1 : decode jdk_48_method_27_code 1 = .ok (.iload_n 1, 1) := by decide +kernel
theorem d19_2 : decode jdk_48_method_27_code 2 = .ok (.iload_n 2, 1) := by decide +kernel
theorem d19_3 : decode jdk_48_method_27_code 3 = .ok (.invokestatic 194, 3) := by decide +kernel
theorem d19_6 : decode jdk_48_method_27_code 6 = .ok (.iadd, 1) := by decide +kernel
theorem d19_7 : decode jdk_48_method_27_code 7 = .ok (.istore_n 3, 1) := by decide +kernel
theorem d19_8 : decode jdk_48_method_27_code 8 = .ok (.iconst 0, 1) := by decide +kernel
theorem d19_9 : decode jdk_48_method_27_code 9 = .ok (.iload_n 3, 1) := by decide +kernel
theorem d19_10 : decode jdk_48_method_27_code 10 = .ok (.if_icmp .ge 11, 3) := by decide +kernel
theorem d19_13 : decode jdk_48_method_27_code 13 = .ok (.iload_n 3, 1) := by decide +kernel
theorem d19_14 : decode jdk_48_method_27_code 14 = .ok (.ldc 200, 2) := by decide +kernel
theorem d19_16 : decode jdk_48_method_27_code 16 = .ok (.if_icmp .gt 5, 3) := by decide +kernel
theorem d19_19 : decode jdk_48_method_27_code 19 = .ok (.iload_n 3, 1) := by decide +kernel
theorem d19_20 : decode jdk_48_method_27_code 20 = .ok (.ireturn, 1) := by decide +kernel
theorem pn_jdk_internal_util_ArraysSupport : plainName "jdk/internal/util/ArraysSupport" = true := by first | (simp [plainName, overriddenIn]; done) | decide +kernel
theorem ef_newLen (m : MethodId) (x0 : Int32) (x1 : Int32) (x2 : Int32) : entryFrame m #[(.int x0), (.int x1), (.int x2)] 4 = mkF m 0 #[.val (.int x0), .val (.int x1), .val (.int x2), .unset] [] := by first | (simp [entryFrame, mkF, argsToLocals, Value.category]; done) | rfl
def Q_newLen (Z : State) (p2 : Int32) (h0 : Heap) (n0 : Nat) (v : Option Value) (h : Heap) (L : List Loc) : Prop := v = some (.int (34 : Int32)) ∧ Fr n0 L ∧ (h = h0)
set_option maxRecDepth 65536 in
set_option maxHeartbeats 40000000 in
theorem newLen (l : Launch) (Z : State) (a0 : Array Value) (hw : ∀ d ∈ tables_1, d.before a0 Z = true) (ws : List Jvm.Cond) (p2 : Int32) (h0 : Heap) (n0 : Nat) (Z0 : n0 ≤ h0.size) (hp : ¬ (18 : Int32) < p2) :
    MetFree l (⟨"jdk/internal/util/ArraysSupport", "newLength", "(III)I"⟩ : MethodName) (head1 (Jvm.Cond.code (⟨"jdk/internal/util/ArraysSupport", "newLength", "(III)I"⟩ : MethodName) jdk_48_method_27_code 4 (some .int) :: ws) ({ frames := 1, cells := 0, slots := 0, locals := 14 } : Room)) (fun a U => a = #[(.int (16 : Int32)), (.int p2), (.int (18 : Int32))] ∧ Z.Warmed39 U.vm ∧ U.heap = h0) (fun _ _ _ _ _ => True) (fun _ U o U' => ∃ v L, o = .returned v ∧ Q_newLen Z p2 h0 n0 v U'.heap L ∧ FrameEnd U o U' L ({ frames := 1, cells := 0, slots := 0, locals := 14 } : Room).cells ({ frames := 1, cells := 0, slots := 0, locals := 14 } : Room).slots) := by
  refine MetFree.of_bodySF (plainFor_of_name pn_jdk_internal_util_ArraysSupport) hisR ?_
  intro p e s m args below meth c s₁ Bd hml0 hP hK
  obtain ⟨rfl, hZ, hh⟩ := hP
  have hx := Bd.exec
  have hby := Bd.bytes
  have hml : c.maxLocals = 4 := hml0
  have hown : s.vm.findClass "jdk/internal/util/ArraysSupport" = some m.cls := findClass_of_methodNamed Bd.named
  have hnm := (name_of_methodNamed Bd.named Bd.method).1
  have hret : meth.sig.returnType = (some .int) := Bd.returns
  have hlk : meth.locks = false := BodyLoose.notSynchronized Bd
  have X0 : Stand p l e ({ frames := 1, cells := 0, slots := 0, locals := 14 } : Room) s m #[(.int (16 : Int32)), (.int p2), (.int (18 : Int32))] below meth c s₁ [] 0 0 := Stand.of_body Bd
  have e0 : s₁.heap = h0 := by rw [← hh, Bd.state]; rfl
  have N0 := Fr.nil n0
  have K0 : Keep h0 h0 [] := Keep.refl h0 _
  show Gl p.tables e below s (Q_newLen Z p2 h0 n0) 0 0 _
  refine Gl.pre (B := s₁.setTop (mkF m 0 #[.val (.int (16 : Int32)), .val (.int p2), .val (.int (18 : Int32)), .unset] [])) (fun _ k => castTop (ef_newLen m (16 : Int32) p2 (18 : Int32)) k) ?_
  refine Gl.pre (B := s₁.setTop (mkF m 3 #[.val (.int (16 : Int32)), .val (.int p2), .val (.int (18 : Int32)), .unset] [(.int (18 : Int32)), (.int p2), (.int (16 : Int32))])) (fun _ k => XS.iloadN X0.here hx rfl (hb hby d19_0) rfl (XS.iloadN X0.here hx rfl (hb hby d19_1) rfl (XS.iloadN X0.here hx rfl (hb hby d19_2) rfl k))) ?_
  obtain ⟨rv1, _, ⟨T1, L1, k1, n1⟩, -, X1, ⟨Lc1, hQ1, l1, y1, z1⟩, st1⟩ := Jvm.LawKit.callS X0 hx (y := (⟨"java/lang/Math", "max", "(II)I"⟩ : MethodName)) hown (mvT hZ (wq hw 117 rfl)) (mvT hZ (wq hw 118 rfl)) (mvT hZ (wq hw 119 rfl)) (mvT hZ (wq hw 120 rfl)) (by decide) (backOf (W := 1) (mathMax l Z a0 hw [] p2 (18 : Int32) h0 n0 Z0 ) hZ (wq hw 120 rfl) (wq hw 119 rfl) (by decide) (by decide)) (g := (mkF m 3 #[.val (.int (16 : Int32)), .val (.int p2), .val (.int (18 : Int32)), .unset] [(.int (18 : Int32)), (.int p2), (.int (16 : Int32))])) rfl (by rw [hml]; rfl) (argsL := [(.int p2), (.int (18 : Int32))]) (rest := [(.int (16 : Int32))]) (lenOf pd_9 rfl) rfl (by show 2 * 0 + _ ≤ _; exact Nat.le_of_eq rfl) (hb hby d19_3) (fun _ _ => ⟨rfl, e0, (by decide : 0 + 0 ≤ _), (by decide : 0 + 0 ≤ _)⟩)
  dsimp only [Pt.U, Pt.locs, Pt.cells, Pt.slots] at X1 l1 y1 z1 st1 hQ1
  have X1 := own_reb X1 l1 y1 z1
  obtain ⟨rfl, N1q, e1⟩ := hQ1
  have N1 := Fr.app N0 N1q
  refine Gl.pre (B := T1.setTop (mkF m 6 #[.val (.int (16 : Int32)), .val (.int p2), .val (.int (18 : Int32)), .unset] [(.int (if p2 < (18 : Int32) then (18 : Int32) else p2)), (.int (16 : Int32))])) (fun _ k => st1 _ k) ?_
  rw [show (if p2 < (18 : Int32) then (18 : Int32) else p2) = (18 : Int32) from own_max hp]
  refine Gl.pre (B := T1.setTop (mkF m 7 #[.val (.int (16 : Int32)), .val (.int p2), .val (.int (18 : Int32)), .unset] [(.int ((16 : Int32) + (18 : Int32)))])) (fun _ k => XS.iadd X1.here hx rfl (hb hby d19_6) rfl k) ?_
  rw [show ((16 : Int32) + (18 : Int32)) = (34 : Int32) from by decide]
  refine Gl.pre (B := T1.setTop (mkF m 20 #[.val (.int (16 : Int32)), .val (.int p2), .val (.int (18 : Int32)), .val (.int (34 : Int32))] [(.int (34 : Int32))])) (fun _ k => XS.istoreN X1.here hx rfl (hb hby d19_7) rfl (l' := #[.val (.int (16 : Int32)), .val (.int p2), .val (.int (18 : Int32)), .val (.int (34 : Int32))]) rfl (XS.iconst X1.here hx rfl (hb hby d19_8) (XS.iloadN X1.here hx rfl (hb hby d19_9) rfl (XS.icmpNo X1.here hx rfl (hb hby d19_10) rfl (tlt (by decide : (0 : Int32) < (34 : Int32))).2.1 (XS.iloadN X1.here hx rfl (hb hby d19_13) rfl (X1.ldcInt hx hown (mvT hZ (wq hw 121 rfl)) (g := (mkF m 14 #[.val (.int (16 : Int32)), .val (.int p2), .val (.int (18 : Int32)), .val (.int (34 : Int32))] [(.int (34 : Int32))])) rfl (hb hby d19_14) _ (XS.icmpNo X1.here hx rfl (hb hby d19_16) rfl (flt (by decide : ¬ ((2147483639 : Int32) < (34 : Int32)))).2.2.1 (XS.iloadN X1.here hx rfl (hb hby d19_19) rfl k)))))))) ?_
  refine Gl.out X1 (v := some (.int (34 : Int32))) (fun h => by rw [hret] at h; cases h) hlk (fun fs hr => retOut X1 hx hret rfl (Or.inl ⟨rfl, Or.inl rfl, _, rfl⟩) (hb hby d19_20) hr) ?_ (by decide) (by decide)
  show Q_newLen Z _ h0 n0 _ T1.heap _
  rw [e1]
  exact ⟨rfl, N1, rfl⟩
theorem pd_15 : parseMethodDescriptor "(III)I" = some ⟨[.int, .int, .int], some .int⟩ := by decide +kernel
theorem d18_0 : decode jdk_68_method_10_code 0 = .ok (.aload_n 0, 1) := by decide +kernel
theorem d18_1 : decode jdk_68_method_10_code 1 = .ok (.getfield 15, 3) := by decide +kernel
theorem d18_4 : decode jdk_68_method_10_code 4 = .ok (.arraylength, 1) := by decide +kernel
theorem d18_5 : decode jdk_68_method_10_code 5 = .ok (.istore_n 2, 1) := by decide +kernel
theorem d18_6 : decode jdk_68_method_10_code 6 = .ok (.iload_n 1, 1) := by decide +kernel
theorem d18_7 : decode jdk_68_method_10_code 7 = .ok (.aload_n 0, 1) := by decide +kernel
theorem d18_8 : decode jdk_68_method_10_code 8 = .ok (.getfield 22, 3) := by decide +kernel
theorem d18_11 : decode jdk_68_method_10_code 11 = .ok (.ishl, 1) := by decide +kernel
theorem d18_12 : decode jdk_68_method_10_code 12 = .ok (.istore_n 3, 1) := by decide +kernel
theorem d18_13 : decode jdk_68_method_10_code 13 = .ok (.iload_n 3, 1) := by decide +kernel
theorem d18_14 : decode jdk_68_method_10_code 14 = .ok (.iload_n 2, 1) := by decide +kernel
theorem d18_15 : decode jdk_68_method_10_code 15 = .ok (.isub, 1) := by decide +kernel
theorem d18_16 : decode jdk_68_method_10_code 16 = .ok (.istore 4, 2) := by decide +kernel
theorem d18_18 : decode jdk_68_method_10_code 18 = .ok (.iload_n 2, 1) := by decide +kernel
theorem d18_19 : decode jdk_68_method_10_code 19 = .ok (.iload 4, 2) := by decide +kernel
theorem d18_21 : decode jdk_68_method_10_code 21 = .ok (.iload_n 2, 1) := by decide +kernel
theorem d18_22 : decode jdk_68_method_10_code 22 = .ok (.iconst 2, 1) := by decide +kernel
theorem d18_23 : decode jdk_68_method_10_code 23 = .ok (.aload_n 0, 1) := by decide +kernel
theorem d18_24 : decode jdk_68_method_10_code 24 = .ok (.getfield 22, 3) := by decide +kernel
theorem d18_27 : decode jdk_68_method_10_code 27 = .ok (.ishl, 1) := by decide +kernel
theorem d18_28 : decode jdk_68_method_10_code 28 = .ok (.iadd, 1) := by decide +kernel
theorem d18_29 : decode jdk_68_method_10_code 29 = .ok (.invokestatic 114, 3) := by decide +kernel
theorem d18_32 : decode jdk_68_method_10_code 32 = .ok (.istore 5, 2) := by decide +kernel
theorem d18_34 : decode jdk_68_method_10_code 34 = .ok (.iload 5, 2) := by decide +kernel
theorem d18_36 : decode jdk_68_method_10_code 36 = .ok (.ldc 39, 2) := by decide +kernel
theorem d18_38 : decode jdk_68_method_10_code 38 = .ok (.if_icmp .ne 13, 3) := by decide +kernel
theorem d18_51 : decode jdk_68_method_10_code 51 = .ok (.iload 5, 2) := by decide +kernel
theorem d18_53 : decode jdk_68_method_10_code 53 = .ok (.aload_n 0, 1) := by decide +kernel
theorem d18_54 : decode jdk_68_method_10_code 54 = .ok (.getfield 22, 3) := by decide +kernel
theorem d18_57 : decode jdk_68_method_10_code 57 = .ok (.ishr, 1) := by decide +kernel
theorem d18_58 : decode jdk_68_method_10_code 58 = .ok (.ireturn, 1) := by decide +kernel
theorem ef_newCap (m : MethodId) (x0 : Addr) (x1 : Int32) : entryFrame m #[(.ref x0), (.int x1)] 6 = mkF m 0 #[.val (.ref x0), .val (.int x1), .unset, .unset, .unset, .unset] [] := by first | (simp [entryFrame, mkF, argsToLocals, Value.category]; done) | rfl
def Q_newCap (Z : State) (a1 : Addr) (p2 : Int32) (t : Addr) (k : ClassId) (cs : List Int32) (h0 : Heap) (n0 : Nat) (v : Option Value) (h : Heap) (L : List Loc) : Prop := v = some (.int (34 : Int32)) ∧ Fr n0 L ∧ (h = h0)
set_option maxRecDepth 65536 in
set_option maxHeartbeats 40000000 in
theorem newCap (l : Launch) (Z : State) (a0 : Array Value) (hw : ∀ d ∈ tables_1, d.before a0 Z = true) (ws : List Jvm.Cond) (a1 : Addr) (p2 : Int32) (t : Addr) (k : ClassId) (cs : List Int32) (h0 : Heap) (n0 : Nat) (Z0 : n0 ≤ h0.size) (Fv : Fld Z h0 a1 "java/lang/AbstractStringBuilder" "value" "[B" (.ref t)) (Fc : Fld Z h0 a1 "java/lang/AbstractStringBuilder" "coder" "B" (.int (0 : Int32))) (V : Arv Z h0 t k .byte (16 : Int32) (byt cs ++ List.replicate (16 - cs.length) (.int 0)) (.int 0)) (hp : ¬ (18 : Int32) < (p2 - (16 : Int32))) :
    MetFree l (⟨"java/lang/AbstractStringBuilder", "newCapacity", "(I)I"⟩ : MethodName) (head1 (Jvm.Cond.code (⟨"java/lang/AbstractStringBuilder", "newCapacity", "(I)I"⟩ : MethodName) jdk_68_method_10_code 6 (some .int) :: ws) ({ frames := 2, cells := 0, slots := 0, locals := 29 } : Room)) (fun a U => a = #[(.ref a1), (.int p2)] ∧ Z.Warmed39 U.vm ∧ U.heap = h0) (fun _ _ _ _ _ => True) (fun _ U o U' => ∃ v L, o = .returned v ∧ Q_newCap Z a1 p2 t k cs h0 n0 v U'.heap L ∧ FrameEnd U o U' L ({ frames := 2, cells := 0, slots := 0, locals := 29 } : Room).cells ({ frames := 2, cells := 0, slots := 0, locals := 29 } : Room).slots) := by
  refine MetFree.of_bodySF (plainFor_of_name pn_java_lang_AbstractStringBuilder) hisR ?_
  intro p e s m args below meth c s₁ Bd hml0 hP hK
  obtain ⟨rfl, hZ, hh⟩ := hP
  have hx := Bd.exec
  have hby := Bd.bytes
  have hml : c.maxLocals = 6 := hml0
  have hown : s.vm.findClass "java/lang/AbstractStringBuilder" = some m.cls := findClass_of_methodNamed Bd.named
  have hnm := (name_of_methodNamed Bd.named Bd.method).1
  have hret : meth.sig.returnType = (some .int) := Bd.returns
  have hlk : meth.locks = false := BodyLoose.notSynchronized Bd
  have X0 : Stand p l e ({ frames := 2, cells := 0, slots := 0, locals := 29 } : Room) s m #[(.ref a1), (.int p2)] below meth c s₁ [] 0 0 := Stand.of_body Bd
  have e0 : s₁.heap = h0 := by rw [← hh, Bd.state]; rfl
  have N0 := Fr.nil n0
  have K0 : Keep h0 h0 [] := Keep.refl h0 _
  show Gl p.tables e below s (Q_newCap Z a1 p2 t k cs h0 n0) 0 0 _
  refine Gl.pre (B := s₁.setTop (mkF m 0 #[.val (.ref a1), .val (.int p2), .unset, .unset, .unset, .unset] [])) (fun _ k => castTop (ef_newCap m a1 p2) k) ?_
  refine Gl.pre (B := s₁.setTop (mkF m 1 #[.val (.ref a1), .val (.int p2), .unset, .unset, .unset, .unset] [(.ref a1)])) (fun _ k => XS.aloadN X0.here hx rfl (hb hby d18_0) rfl rfl k) ?_
  obtain ⟨T1, X1, e1, st1⟩ := getF X0 hx hZ hown (host := "") (Or.inl (wq hw 25 rfl)) Via.refl e0 Fv (g := (mkF m 1 #[.val (.ref a1), .val (.int p2), .unset, .unset, .unset, .unset] [(.ref a1)])) rfl rfl (hb hby d18_1)
  refine Gl.pre (B := T1.setTop (mkF m 4 #[.val (.ref a1), .val (.int p2), .unset, .unset, .unset, .unset] [(.ref t)])) (fun _ k => st1 _ k) ?_
  obtain ⟨cl2, Ar2, -, Sz2, Nn2, -, -⟩ := id V
  refine Gl.pre (B := T1.setTop (mkF m 5 #[.val (.ref a1), .val (.int p2), .unset, .unset, .unset, .unset] [(.int (16 : Int32))])) (fun _ k => ?_) ?_
  · refine X1.arraylength hx (by rw [e1]; exact Ar2.1) (State.isArrayOf_alike hZ.alike Ar2.2.1) (g := (mkF m 4 #[.val (.ref a1), .val (.int p2), .unset, .unset, .unset, .unset] [(.ref t)])) rfl rfl (hb hby d18_4) _ ?_
    rw [len_of Sz2 Nn2]
    exact k
  refine Gl.pre (B := T1.setTop (mkF m 8 #[.val (.ref a1), .val (.int p2), .val (.int (16 : Int32)), .unset, .unset, .unset] [(.ref a1), (.int p2)])) (fun _ k => XS.istoreN X1.here hx rfl (hb hby d18_5) rfl (l' := #[.val (.ref a1), .val (.int p2), .val (.int (16 : Int32)), .unset, .unset, .unset]) rfl (XS.iloadN X1.here hx rfl (hb hby d18_6) rfl (XS.aloadN X1.here hx rfl (hb hby d18_7) rfl rfl k))) ?_
  obtain ⟨T3, X3, e3, st3⟩ := getF X1 hx hZ hown (host := "") (Or.inl (wq hw 27 rfl)) Via.refl e1 Fc (g := (mkF m 8 #[.val (.ref a1), .val (.int p2), .val (.int (16 : Int32)), .unset, .unset, .unset] [(.ref a1), (.int p2)])) rfl rfl (hb hby d18_8)
  refine Gl.pre (B := T3.setTop (mkF m 12 #[.val (.ref a1), .val (.int p2), .val (.int (16 : Int32)), .unset, .unset, .unset] [(.int (p2 <<< ((0 : Int32) &&& 31)))])) (fun _ k => st3 _ (XS.ishl X3.here hx rfl (hb hby d18_11) rfl k)) ?_
  rw [own_shl0]
  refine Gl.pre (B := T3.setTop (mkF m 22 #[.val (.ref a1), .val (.int p2), .val (.int (16 : Int32)), .val (.int p2), .val (.int (p2 - (16 : Int32))), .unset] [(.int (16 : Int32)), (.int (p2 - (16 : Int32))), (.int (16 : Int32))])) (fun _ k => XS.istoreN X3.here hx rfl (hb hby d18_12) rfl (l' := #[.val (.ref a1), .val (.int p2), .val (.int (16 : Int32)), .val (.int p2), .unset, .unset]) rfl (XS.iloadN X3.here hx rfl (hb hby d18_13) rfl (XS.iloadN X3.here hx rfl (hb hby d18_14) rfl (XS.isub X3.here hx rfl (hb hby d18_15) rfl (XS.istore X3.here hx rfl (hb hby d18_16) rfl (l' := #[.val (.ref a1), .val (.int p2), .val (.int (16 : Int32)), .val (.int p2), .val (.int (p2 - (16 : Int32))), .unset]) rfl (XS.iloadN X3.here hx rfl (hb hby d18_18) rfl (XS.iload X3.here hx rfl (hb hby d18_19) rfl (XS.iloadN X3.here hx rfl (hb hby d18_21) rfl k)))))))) ?_
  refine Gl.pre (B := T3.setTop (mkF m 24 #[.val (.ref a1), .val (.int p2), .val (.int (16 : Int32)), .val (.int p2), .val (.int (p2 - (16 : Int32))), .unset] [(.ref a1), (.int (2 : Int32)), (.int (16 : Int32)), (.int (p2 - (16 : Int32))), (.int (16 : Int32))])) (fun _ k => XS.iconst X3.here hx rfl (hb hby d18_22) (XS.aloadN X3.here hx rfl (hb hby d18_23) rfl rfl k)) ?_
  obtain ⟨T4, X4, e4, st4⟩ := getF X3 hx hZ hown (host := "") (Or.inl (wq hw 27 rfl)) Via.refl e3 Fc (g := (mkF m 24 #[.val (.ref a1), .val (.int p2), .val (.int (16 : Int32)), .val (.int p2), .val (.int (p2 - (16 : Int32))), .unset] [(.ref a1), (.int (2 : Int32)), (.int (16 : Int32)), (.int (p2 - (16 : Int32))), (.int (16 : Int32))])) rfl rfl (hb hby d18_24)
  refine Gl.pre (B := T4.setTop (mkF m 28 #[.val (.ref a1), .val (.int p2), .val (.int (16 : Int32)), .val (.int p2), .val (.int (p2 - (16 : Int32))), .unset] [(.int ((2 : Int32) <<< ((0 : Int32) &&& 31))), (.int (16 : Int32)), (.int (p2 - (16 : Int32))), (.int (16 : Int32))])) (fun _ k => st4 _ (XS.ishl X4.here hx rfl (hb hby d18_27) rfl k)) ?_
  rw [show ((2 : Int32) <<< ((0 : Int32) &&& 31)) = (2 : Int32) from by decide]
  refine Gl.pre (B := T4.setTop (mkF m 29 #[.val (.ref a1), .val (.int p2), .val (.int (16 : Int32)), .val (.int p2), .val (.int (p2 - (16 : Int32))), .unset] [(.int ((16 : Int32) + (2 : Int32))), (.int (p2 - (16 : Int32))), (.int (16 : Int32))])) (fun _ k => XS.iadd X4.here hx rfl (hb hby d18_28) rfl k) ?_
  rw [show ((16 : Int32) + (2 : Int32)) = (18 : Int32) from by decide]
  obtain ⟨rv5, _, ⟨T5, L5, k5, n5⟩, -, X5, ⟨Lc5, hQ5, l5, y5, z5⟩, st5⟩ := Jvm.LawKit.callS X4 hx (y := (⟨"jdk/internal/util/ArraysSupport", "newLength", "(III)I"⟩ : MethodName)) hown (mvT hZ (wq hw 113 rfl)) (mvT hZ (wq hw 114 rfl)) (mvT hZ (wq hw 115 rfl)) (mvT hZ (wq hw 116 rfl)) (by decide) (backOf (W := 0) (newLen l Z a0 hw [] (p2 - (16 : Int32)) h0 n0 Z0 hp) hZ (wq hw 116 rfl) (wq hw 115 rfl) (by decide) (by decide)) (g := (mkF m 29 #[.val (.ref a1), .val (.int p2), .val (.int (16 : Int32)), .val (.int p2), .val (.int (p2 - (16 : Int32))), .unset] [(.int (18 : Int32)), (.int (p2 - (16 : Int32))), (.int (16 : Int32))])) rfl (by rw [hml]; rfl) (argsL := [(.int (16 : Int32)), (.int (p2 - (16 : Int32))), (.int (18 : Int32))]) (rest := []) (lenOf pd_15 rfl) rfl (by show 2 * 0 + _ ≤ _; exact Nat.le_of_eq rfl) (hb hby d18_29) (fun _ _ => ⟨rfl, e4, (by decide : 0 + 0 ≤ _), (by decide : 0 + 0 ≤ _)⟩)
  dsimp only [Pt.U, Pt.locs, Pt.cells, Pt.slots] at X5 l5 y5 z5 st5 hQ5
  have X5 := own_reb X5 l5 y5 z5
  obtain ⟨rfl, N5q, e5⟩ := hQ5
  have N5 := Fr.app N0 N5q
  refine Gl.pre (B := T5.setTop (mkF m 54 #[.val (.ref a1), .val (.int p2), .val (.int (16 : Int32)), .val (.int p2), .val (.int (p2 - (16 : Int32))), .val (.int (34 : Int32))] [(.ref a1), (.int (34 : Int32))])) (fun _ k => st5 _ (XS.istore X5.here hx rfl (hb hby d18_32) rfl (l' := #[.val (.ref a1), .val (.int p2), .val (.int (16 : Int32)), .val (.int p2), .val (.int (p2 - (16 : Int32))), .val (.int (34 : Int32))]) rfl (XS.iload X5.here hx rfl (hb hby d18_34) rfl (X5.ldcInt hx hown (mvT hZ (wq hw 122 rfl)) (g := (mkF m 36 #[.val (.ref a1), .val (.int p2), .val (.int (16 : Int32)), .val (.int p2), .val (.int (p2 - (16 : Int32))), .val (.int (34 : Int32))] [(.int (34 : Int32))])) rfl (hb hby d18_36) _ (XS.icmpYes X5.here hx rfl (pc0 := 38) (pc' := 51) rfl (hb hby d18_38) rfl (feq (by decide : ¬ ((34 : Int32) = (2147483647 : Int32)))).2 (by decide) (by decide) (XS.iload X5.here hx rfl (hb hby d18_51) rfl (XS.aloadN X5.here hx rfl (hb hby d18_53) rfl rfl k))))))) ?_
  obtain ⟨T6, X6, e6, st6⟩ := getF X5 hx hZ hown (host := "") (Or.inl (wq hw 27 rfl)) Via.refl e5 Fc (g := (mkF m 54 #[.val (.ref a1), .val (.int p2), .val (.int (16 : Int32)), .val (.int p2), .val (.int (p2 - (16 : Int32))), .val (.int (34 : Int32))] [(.ref a1), (.int (34 : Int32))])) rfl rfl (hb hby d18_54)
  refine Gl.pre (B := T6.setTop (mkF m 58 #[.val (.ref a1), .val (.int p2), .val (.int (16 : Int32)), .val (.int p2), .val (.int (p2 - (16 : Int32))), .val (.int (34 : Int32))] [(.int ((34 : Int32) >>> ((0 : Int32) &&& 31)))])) (fun _ k => st6 _ (XS.ishr X6.here hx rfl (hb hby d18_57) rfl k)) ?_
  rw [show ((34 : Int32) >>> ((0 : Int32) &&& 31)) = (34 : Int32) from by decide]
  refine Gl.out X6 (v := some (.int (34 : Int32))) (fun h => by rw [hret] at h; cases h) hlk (fun fs hr => retOut X6 hx hret rfl (Or.inl ⟨rfl, Or.inl rfl, _, rfl⟩) (hb hby d18_58) hr) ?_ (by decide) (by decide)
  show Q_newCap Z _ _ _ _ _ h0 n0 _ T6.heap _
  rw [e6]
  exact ⟨rfl, N5, rfl⟩
theorem d21_0 : decode jdk_65_method_121_code 0 = .ok (.iload_n 1, 1) := by decide +kernel
theorem d21_1 : decode jdk_65_method_121_code 1 = .ok (.aload_n 0, 1) := by decide +kernel
theorem d21_2 : decode jdk_65_method_121_code 2 = .ok (.arraylength, 1) := by decide +kernel
theorem d21_3 : decode jdk_65_method_121_code 3 = .ok (.if_icmp .ne 11, 3) := by decide +kernel
theorem d21_14 : decode jdk_65_method_121_code 14 = .ok (.iload_n 1, 1) := by decide +kernel
theorem d21_15 : decode jdk_65_method_121_code 15 = .ok (.newarray .byte, 2) := by decide +kernel
theorem d21_17 : decode jdk_65_method_121_code 17 = .ok (.astore_n 2, 1) := by decide +kernel
theorem d21_18 : decode jdk_65_method_121_code 18 = .ok (.aload_n 0, 1) := by decide +kernel
theorem d21_19 : decode jdk_65_method_121_code 19 = .ok (.iconst 0, 1) := by decide +kernel
theorem d21_20 : decode jdk_65_method_121_code 20 = .ok (.aload_n 2, 1) := by decide +kernel
theorem d21_21 : decode jdk_65_method_121_code 21 = .ok (.iconst 0, 1) := by decide +kernel
theorem d21_22 : decode jdk_65_method_121_code 22 = .ok (.aload_n 0, 1) := by decide +kernel
theorem d21_23 : decode jdk_65_method_121_code 23 = .ok (.arraylength, 1) := by decide +kernel
theorem d21_24 : decode jdk_65_method_121_code 24 = .ok (.iload_n 1, 1) := by decide +kernel
theorem d21_25 : decode jdk_65_method_121_code 25 = .ok (.invokestatic 304, 3) := by decide +kernel
theorem d21_28 : decode jdk_65_method_121_code 28 = .ok (.invokestatic 150, 3) := by decide +kernel
theorem d21_31 : decode jdk_65_method_121_code 31 = .ok (.aload_n 2, 1) := by decide +kernel
theorem d21_32 : decode jdk_65_method_121_code 32 = .ok (.areturn, 1) := by decide +kernel
theorem ef_copyOf (m : MethodId) (x0 : Addr) (x1 : Int32) : entryFrame m #[(.ref x0), (.int x1)] 3 = mkF m 0 #[.val (.ref x0), .val (.int x1), .unset] [] := by first | (simp [entryFrame, mkF, argsToLocals, Value.category]; done) | rfl
def Q_copyOf (Z : State) (a1 : Addr) (k : ClassId) (cs : List Int32) (h0 : Heap) (n0 : Nat) (v : Option Value) (h : Heap) (L : List Loc) : Prop := ∃ tt : Addr, ∃ kk : ClassId, v = some (.ref tt) ∧ Fr n0 L ∧ (Keep h0 h []) ∧ (h0.size ≤ tt) ∧ (Arv Z h tt kk .byte (34 : Int32) (byt cs ++ List.replicate (34 - cs.length) (.int 0)) (.int 0))
set_option maxRecDepth 65536 in
set_option maxHeartbeats 40000000 in
theorem copyOf (l : Launch) (Z : State) (a0 : Array Value) (hw : ∀ d ∈ tables_1, d.before a0 Z = true) (ws : List Jvm.Cond) (a1 : Addr) (k : ClassId) (cs : List Int32) (h0 : Heap) (n0 : Nat) (Z0 : n0 ≤ h0.size) (V_a1 : Arv Z h0 a1 k .byte (16 : Int32) (byt cs ++ List.replicate (16 - cs.length) (.int 0)) (.int 0)) (hl : cs.length ≤ 16) :
    MetFree l (⟨"java/util/Arrays", "copyOf", "([BI)[B"⟩ : MethodName) (head1 (Jvm.Cond.code (⟨"java/util/Arrays", "copyOf", "([BI)[B"⟩ : MethodName) jdk_65_method_121_code 3 (some (.array .byte)) :: ws) ({ frames := 1, cells := 1, slots := 34, locals := 40 } : Room)) (fun a U => a = #[(.ref a1), (.int (34 : Int32))] ∧ Z.Warmed39 U.vm ∧ U.heap = h0) (fun _ _ _ _ _ => True) (fun _ U o U' => ∃ v L, o = .returned v ∧ Q_copyOf Z a1 k cs h0 n0 v U'.heap L ∧ FrameEnd U o U' L ({ frames := 1, cells := 1, slots := 34, locals := 40 } : Room).cells ({ frames := 1, cells := 1, slots := 34, locals := 40 } : Room).slots) := by
  refine MetFree.of_bodySF (plainFor_of_name pn_java_util_Arrays) hisR ?_
  intro p e s m args below meth c s₁ Bd hml0 hP hK
  obtain ⟨rfl, hZ, hh⟩ := hP
  have hx := Bd.exec
  have hby := Bd.bytes
  have hml : c.maxLocals = 3 := hml0
  have hown : s.vm.findClass "java/util/Arrays" = some m.cls := findClass_of_methodNamed Bd.named
  have hnm := (name_of_methodNamed Bd.named Bd.method).1
  have hret : meth.sig.returnType = (some (.array .byte)) := Bd.returns
  have hlk : meth.locks = false := BodyLoose.notSynchronized Bd
  have X0 : Stand p l e ({ frames := 1, cells := 1, slots := 34, locals := 40 } : Room) s m #[(.ref a1), (.int (34 : Int32))] below meth c s₁ [] 0 0 := Stand.of_body Bd
  have e0 : s₁.heap = h0 := by rw [← hh, Bd.state]; rfl
  have N0 := Fr.nil n0
  have K0 : Keep h0 h0 [] := Keep.refl h0 _
  show Gl p.tables e below s (Q_copyOf Z a1 k cs h0 n0) 1 34 _
  refine Gl.pre (B := s₁.setTop (mkF m 0 #[.val (.ref a1), .val (.int (34 : Int32)), .unset] [])) (fun _ k => castTop (ef_copyOf m a1 (34 : Int32)) k) ?_
  refine Gl.pre (B := s₁.setTop (mkF m 2 #[.val (.ref a1), .val (.int (34 : Int32)), .unset] [(.ref a1), (.int (34 : Int32))])) (fun _ k => XS.iloadN X0.here hx rfl (hb hby d21_0) rfl (XS.aloadN X0.here hx rfl (hb hby d21_1) rfl rfl k)) ?_
  obtain ⟨cl1, Ar1, -, Sz1, Nn1, -, -⟩ := id V_a1
  refine Gl.pre (B := s₁.setTop (mkF m 3 #[.val (.ref a1), .val (.int (34 : Int32)), .unset] [(.int (16 : Int32)), (.int (34 : Int32))])) (fun _ k => ?_) ?_
  · refine X0.arraylength hx (by rw [e0]; exact Ar1.1) (State.isArrayOf_alike hZ.alike Ar1.2.1) (g := (mkF m 2 #[.val (.ref a1), .val (.int (34 : Int32)), .unset] [(.ref a1), (.int (34 : Int32))])) rfl rfl (hb hby d21_2) _ ?_
    rw [len_of Sz1 Nn1]
    exact k
  refine Gl.pre (B := s₁.setTop (mkF m 15 #[.val (.ref a1), .val (.int (34 : Int32)), .unset] [(.int (34 : Int32))])) (fun _ k => XS.icmpYes X0.here hx rfl (pc0 := 3) (pc' := 14) rfl (hb hby d21_3) rfl (feq (by decide : ¬ ((34 : Int32) = (16 : Int32)))).2 (by decide) (by decide) (XS.iloadN X0.here hx rfl (hb hby d21_14) rfl k)) ?_
  obtain ⟨T2, h2, k2, X2, e2, E2, A2, st2⟩ := newP X0 hx hZ (wq hw 24 rfl) e0 (g := (mkF m 15 #[.val (.ref a1), .val (.int (34 : Int32)), .unset] [(.int (34 : Int32))])) rfl (hb hby d21_15) rfl (by decide) (cap := 34) (by decide) (by decide) (by decide) (by decide)
  obtain ⟨b2, g2⟩ : ∃ z, z = h0.size := ⟨_, rfl⟩
  rw [← g2] at A2 st2
  have g_b2 : n0 ≤ b2 := Nat.le_trans Z0 (Nat.le_of_eq g2.symm)
  have sz_b2 : h0.size ≤ b2 := Nat.le_trans K0.1 (Nat.le_of_eq g2.symm)
  have Z0 := Nat.le_trans Z0 E2.1
  have V_a1 := V_a1.ext E2
  have K0 := K0.ext E2
  have V_b2 : Arv Z h2 b2 k2 .byte (34 : Int32) [(.int (0 : Int32)), (.int (0 : Int32)), (.int (0 : Int32)), (.int (0 : Int32)), (.int (0 : Int32)), (.int (0 : Int32)), (.int (0 : Int32)), (.int (0 : Int32)), (.int (0 : Int32)), (.int (0 : Int32)), (.int (0 : Int32)), (.int (0 : Int32)), (.int (0 : Int32)), (.int (0 : Int32)), (.int (0 : Int32)), (.int (0 : Int32)), (.int (0 : Int32)), (.int (0 : Int32)), (.int (0 : Int32)), (.int (0 : Int32)), (.int (0 : Int32)), (.int (0 : Int32)), (.int (0 : Int32)), (.int (0 : Int32)), (.int (0 : Int32)), (.int (0 : Int32)), (.int (0 : Int32)), (.int (0 : Int32)), (.int (0 : Int32)), (.int (0 : Int32)), (.int (0 : Int32)), (.int (0 : Int32)), (.int (0 : Int32)), (.int (0 : Int32))] (.int (0 : Int32)) := (Arv.new A2 (by decide)).pad (pad_rep [] (.int (0 : Int32)) 34)
  refine Gl.pre (B := T2.setTop (mkF m 23 #[.val (.ref a1), .val (.int (34 : Int32)), .val (.ref b2)] [(.ref a1), (.int (0 : Int32)), (.ref b2), (.int (0 : Int32)), (.ref a1)])) (fun _ k => st2 _ (XS.astoreN X2.here hx rfl (hb hby d21_17) rfl rfl (l' := #[.val (.ref a1), .val (.int (34 : Int32)), .val (.ref b2)]) rfl (XS.aloadN X2.here hx rfl (hb hby d21_18) rfl rfl (XS.iconst X2.here hx rfl (hb hby d21_19) (XS.aloadN X2.here hx rfl (hb hby d21_20) rfl rfl (XS.iconst X2.here hx rfl (hb hby d21_21) (XS.aloadN X2.here hx rfl (hb hby d21_22) rfl rfl k))))))) ?_
  obtain ⟨cl3, Ar3, -, Sz3, Nn3, -, -⟩ := id V_a1
  refine Gl.pre (B := T2.setTop (mkF m 24 #[.val (.ref a1), .val (.int (34 : Int32)), .val (.ref b2)] [(.int (16 : Int32)), (.int (0 : Int32)), (.ref b2), (.int (0 : Int32)), (.ref a1)])) (fun _ k => ?_) ?_
  · refine X2.arraylength hx (by rw [e2]; exact Ar3.1) (State.isArrayOf_alike hZ.alike Ar3.2.1) (g := (mkF m 23 #[.val (.ref a1), .val (.int (34 : Int32)), .val (.ref b2)] [(.ref a1), (.int (0 : Int32)), (.ref b2), (.int (0 : Int32)), (.ref a1)])) rfl rfl (hb hby d21_23) _ ?_
    rw [len_of Sz3 Nn3]
    exact k
  refine Gl.pre (B := T2.setTop (mkF m 25 #[.val (.ref a1), .val (.int (34 : Int32)), .val (.ref b2)] [(.int (34 : Int32)), (.int (16 : Int32)), (.int (0 : Int32)), (.ref b2), (.int (0 : Int32)), (.ref a1)])) (fun _ k => XS.iloadN X2.here hx rfl (hb hby d21_24) rfl k) ?_
  obtain ⟨rv4, _, ⟨T4, L4, k4, n4⟩, -, X4, ⟨Lc4, hQ4, l4, y4, z4⟩, st4⟩ := Jvm.LawKit.callS X2 hx (y := (⟨"java/lang/Math", "min", "(II)I"⟩ : MethodName)) hown (mvT hZ (wq hw 127 rfl)) (mvT hZ (wq hw 128 rfl)) (mvT hZ (wq hw 119 rfl)) (mvT hZ (wq hw 129 rfl)) (by decide) (backOf (W := 4) (mathMin l Z a0 hw [] (16 : Int32) (34 : Int32) h2 n0 Z0 ) hZ (wq hw 129 rfl) (wq hw 119 rfl) (by decide) (by decide)) (g := (mkF m 25 #[.val (.ref a1), .val (.int (34 : Int32)), .val (.ref b2)] [(.int (34 : Int32)), (.int (16 : Int32)), (.int (0 : Int32)), (.ref b2), (.int (0 : Int32)), (.ref a1)])) rfl (by rw [hml]; rfl) (argsL := [(.int (16 : Int32)), (.int (34 : Int32))]) (rest := [(.int (0 : Int32)), (.ref b2), (.int (0 : Int32)), (.ref a1)]) (lenOf pd_9 rfl) rfl (by show 2 * 0 + _ ≤ _; exact Nat.le_of_eq rfl) (hb hby d21_25) (fun _ _ => ⟨rfl, e2, (by decide : 1 + 0 ≤ _), (by decide : 34 + 0 ≤ _)⟩)
  dsimp only [Pt.U, Pt.locs, Pt.cells, Pt.slots] at X4 l4 y4 z4 st4 hQ4
  have X4 := own_reb X4 l4 y4 z4
  obtain ⟨rfl, N4q, e4⟩ := hQ4
  have N4 := Fr.app N0 N4q
  refine Gl.pre (B := T4.setTop (mkF m 28 #[.val (.ref a1), .val (.int (34 : Int32)), .val (.ref b2)] [(.int (if (34 : Int32) < (16 : Int32) then (34 : Int32) else (16 : Int32))), (.int (0 : Int32)), (.ref b2), (.int (0 : Int32)), (.ref a1)])) (fun _ k => st4 _ k) ?_
  rw [show (if (34 : Int32) < (16 : Int32) then (34 : Int32) else (16 : Int32)) = (16 : Int32) from by decide]
  obtain ⟨T5, h5, L5, X5, e5, N5, K5, V5, st5⟩ := cpA X4 hx hZ hown (wq hw 130 rfl) (wq hw 84 rfl) (wq hw 82 rfl) (wq hw 83 rfl) e4 V_a1 V_b2 (Or.inl ⟨rfl, rfl⟩) (us := (byt cs ++ List.replicate (16 - cs.length) (.int 0))) (by decide) (by decide) (by decide) (by decide) (by decide) (own_us _ _ (sb_fill cs hl)) (by decide) N4 g_b2 (g := (mkF m 28 #[.val (.ref a1), .val (.int (34 : Int32)), .val (.ref b2)] [(.int (16 : Int32)), (.int (0 : Int32)), (.ref b2), (.int (0 : Int32)), (.ref a1)])) rfl (by rw [hml]; rfl) rfl (hb hby d21_28) (by decide) (W := 0) (by show 2 * 0 + _ ≤ _; exact Nat.le_of_eq rfl) (by decide)
  have K0 := K0.trans K5 (allS (Or.inr sz_b2) all0)
  have V_b2 : Arv Z h5 b2 k2 .byte (34 : Int32) (byt cs ++ List.replicate (34 - cs.length) (.int 0)) (.int (0 : Int32)) := (by have q := V5; exact (sb_grow hl) ▸ q)
  refine Gl.pre (B := T5.setTop (mkF m 32 #[.val (.ref a1), .val (.int (34 : Int32)), .val (.ref b2)] [(.ref b2)])) (fun _ k => st5 _ (XS.aloadN X5.here hx rfl (hb hby d21_31) rfl rfl k)) ?_
  refine Gl.out X5 (v := some (.ref b2)) (fun h => by rw [hret] at h; cases h) hlk (fun fs hr => retOut X5 hx hret rfl (Or.inr (Or.inr (Or.inr (Or.inr ⟨rfl, rfl, rfl⟩)))) (hb hby d21_32) hr) ?_ (by decide) (by decide)
  show Q_copyOf Z _ _ _ h0 n0 _ T5.heap _
  rw [e5]
  exact ⟨b2, _, rfl, N5, K0, sz_b2, V_b2⟩
theorem pd_16 : parseMethodDescriptor "(I)I" = some ⟨[.int], some .int⟩ := by decide +kernel
theorem pd_17 : parseMethodDescriptor "([BI)[B" = some ⟨[(.array .byte), .int], some (.array .byte)⟩ := by decide +kernel
theorem d9_17 : decode jdk_68_method_9_code 17 = .ok (.aload_n 0, 1) := by decide +kernel
theorem d9_18 : decode jdk_68_method_9_code 18 = .ok (.aload_n 0, 1) := by decide +kernel
theorem d9_19 : decode jdk_68_method_9_code 19 = .ok (.getfield 15, 3) := by decide +kernel
theorem d9_22 : decode jdk_68_method_9_code 22 = .ok (.aload_n 0, 1) := by decide +kernel
theorem d9_23 : decode jdk_68_method_9_code 23 = .ok (.iload_n 1, 1) := by decide +kernel
theorem d9_24 : decode jdk_68_method_9_code 24 = .ok (.invokevirtual 104, 3) := by decide +kernel
theorem d9_27 : decode jdk_68_method_9_code 27 = .ok (.aload_n 0, 1) := by decide +kernel
theorem d9_28 : decode jdk_68_method_9_code 28 = .ok (.getfield 22, 3) := by decide +kernel
theorem d9_31 : decode jdk_68_method_9_code 31 = .ok (.ishl, 1) := by decide +kernel
theorem d9_32 : decode jdk_68_method_9_code 32 = .ok (.invokestatic 108, 3) := by decide +kernel
theorem d9_35 : decode jdk_68_method_9_code 35 = .ok (.putfield 15, 3) := by decide +kernel
theorem ef_ensCapG (m : MethodId) (x0 : Addr) (x1 : Int32) : entryFrame m #[(.ref x0), (.int x1)] 3 = mkF m 0 #[.val (.ref x0), .val (.int x1), .unset] [] := by first | (simp [entryFrame, mkF, argsToLocals, Value.category]; done) | rfl
def Q_ensCapG (Z : State) (a1 : Addr) (p2 : Int32) (t : Addr) (k : ClassId) (cs : List Int32) (p3 : Int32) (h0 : Heap) (n0 : Nat) (v : Option Value) (h : Heap) (L : List Loc) : Prop := ∃ tt : Addr, ∃ kk : ClassId, v = none ∧ Fr n0 L ∧ (Keep h0 h [a1]) ∧ (h0.size ≤ tt) ∧ (Fld Z h a1 "java/lang/AbstractStringBuilder" "value" "[B" (.ref tt)) ∧ (Fld Z h a1 "java/lang/AbstractStringBuilder" "coder" "B" (.int (0 : Int32))) ∧ (Fld Z h a1 "java/lang/AbstractStringBuilder" "count" "I" (.int p3)) ∧ (Arv Z h tt kk .byte (34 : Int32) (byt cs ++ List.replicate (34 - cs.length) (.int 0)) (.int 0))
set_option maxRecDepth 65536 in
set_option maxHeartbeats 40000000 in
theorem ensCapG (l : Launch) (Z : State) (a0 : Array Value) (hw : ∀ d ∈ tables_1, d.before a0 Z = true) (ws : List Jvm.Cond) (a1 : Addr) (p2 : Int32) (t : Addr) (k : ClassId) (cs : List Int32) (p3 : Int32) (h0 : Heap) (n0 : Nat) (Z0 : n0 ≤ h0.size) (E_a1 : Exa Z h0 a1 "java/lang/StringBuilder") (g_a1 : n0 ≤ a1) (Fn : Fld Z h0 a1 "java/lang/AbstractStringBuilder" "count" "I" (.int p3)) (Fv : Fld Z h0 a1 "java/lang/AbstractStringBuilder" "value" "[B" (.ref t)) (Fc : Fld Z h0 a1 "java/lang/AbstractStringBuilder" "coder" "B" (.int (0 : Int32))) (V : Arv Z h0 t k .byte (16 : Int32) (byt cs ++ List.replicate (16 - cs.length) (.int 0)) (.int 0)) (hgt : (0 : Int32) < (p2 - (16 : Int32))) (hp : ¬ (18 : Int32) < (p2 - (16 : Int32))) (hl : cs.length ≤ 16) :
    MetFree l (⟨"java/lang/AbstractStringBuilder", "ensureCapacityInternal", "(I)V"⟩ : MethodName) (head1 (Jvm.Cond.code (⟨"java/lang/AbstractStringBuilder", "ensureCapacityInternal", "(I)V"⟩ : MethodName) jdk_68_method_9_code 3 none :: ws) ({ frames := 3, cells := 1, slots := 34, locals := 55 } : Room)) (fun a U => a = #[(.ref a1), (.int p2)] ∧ Z.Warmed39 U.vm ∧ U.heap = h0) (fun _ _ _ _ _ => True) (fun _ U o U' => ∃ v L, o = .returned v ∧ Q_ensCapG Z a1 p2 t k cs p3 h0 n0 v U'.heap L ∧ FrameEnd U o U' L ({ frames := 3, cells := 1, slots := 34, locals := 55 } : Room).cells ({ frames := 3, cells := 1, slots := 34, locals := 55 } : Room).slots) := by
  refine MetFree.of_bodySF (plainFor_of_name pn_java_lang_AbstractStringBuilder) hisR ?_
  intro p e s m args below meth c s₁ Bd hml0 hP hK
  obtain ⟨rfl, hZ, hh⟩ := hP
  have hx := Bd.exec
  have hby := Bd.bytes
  have hml : c.maxLocals = 3 := hml0
  have hown : s.vm.findClass "java/lang/AbstractStringBuilder" = some m.cls := findClass_of_methodNamed Bd.named
  have hnm := (name_of_methodNamed Bd.named Bd.method).1
  have hret : meth.sig.returnType = none := Bd.returns
  have hlk : meth.locks = false := BodyLoose.notSynchronized Bd
  have X0 : Stand p l e ({ frames := 3, cells := 1, slots := 34, locals := 55 } : Room) s m #[(.ref a1), (.int p2)] below meth c s₁ [] 0 0 := Stand.of_body Bd
  have e0 : s₁.heap = h0 := by rw [← hh, Bd.state]; rfl
  have N0 := Fr.nil n0
  have K0 : Keep h0 h0 [a1] := Keep.refl h0 _
  show Gl p.tables e below s (Q_ensCapG Z a1 p2 t k cs p3 h0 n0) 1 34 _
  refine Gl.pre (B := s₁.setTop (mkF m 0 #[.val (.ref a1), .val (.int p2), .unset] [])) (fun _ k => castTop (ef_ensCapG m a1 p2) k) ?_
  refine Gl.pre (B := s₁.setTop (mkF m 1 #[.val (.ref a1), .val (.int p2), .unset] [(.ref a1)])) (fun _ k => XS.aloadN X0.here hx rfl (hb hby d9_0) rfl rfl k) ?_
  obtain ⟨T1, X1, e1, st1⟩ := getF X0 hx hZ hown (host := "") (Or.inl (wq hw 25 rfl)) Via.refl e0 Fv (g := (mkF m 1 #[.val (.ref a1), .val (.int p2), .unset] [(.ref a1)])) rfl rfl (hb hby d9_1)
  refine Gl.pre (B := T1.setTop (mkF m 4 #[.val (.ref a1), .val (.int p2), .unset] [(.ref t)])) (fun _ k => st1 _ k) ?_
  obtain ⟨cl2, Ar2, -, Sz2, Nn2, -, -⟩ := id V
  refine Gl.pre (B := T1.setTop (mkF m 5 #[.val (.ref a1), .val (.int p2), .unset] [(.int (16 : Int32))])) (fun _ k => ?_) ?_
  · refine X1.arraylength hx (by rw [e1]; exact Ar2.1) (State.isArrayOf_alike hZ.alike Ar2.2.1) (g := (mkF m 4 #[.val (.ref a1), .val (.int p2), .unset] [(.ref t)])) rfl rfl (hb hby d9_4) _ ?_
    rw [len_of Sz2 Nn2]
    exact k
  refine Gl.pre (B := T1.setTop (mkF m 6 #[.val (.ref a1), .val (.int p2), .unset] [(.ref a1), (.int (16 : Int32))])) (fun _ k => XS.aloadN X1.here hx rfl (hb hby d9_5) rfl rfl k) ?_
  obtain ⟨T3, X3, e3, st3⟩ := getF X1 hx hZ hown (host := "") (Or.inl (wq hw 27 rfl)) Via.refl e1 Fc (g := (mkF m 6 #[.val (.ref a1), .val (.int p2), .unset] [(.ref a1), (.int (16 : Int32))])) rfl rfl (hb hby d9_6)
  refine Gl.pre (B := T3.setTop (mkF m 10 #[.val (.ref a1), .val (.int p2), .unset] [(.int ((16 : Int32) >>> ((0 : Int32) &&& 31)))])) (fun _ k => st3 _ (XS.ishr X3.here hx rfl (hb hby d9_9) rfl k)) ?_
  rw [show ((16 : Int32) >>> ((0 : Int32) &&& 31)) = (16 : Int32) from by decide]
  refine Gl.pre (B := T3.setTop (mkF m 19 #[.val (.ref a1), .val (.int p2), .val (.int (16 : Int32))] [(.ref a1), (.ref a1)])) (fun _ k => XS.istoreN X3.here hx rfl (hb hby d9_10) rfl (l' := #[.val (.ref a1), .val (.int p2), .val (.int (16 : Int32))]) rfl (XS.iloadN X3.here hx rfl (hb hby d9_11) rfl (XS.iloadN X3.here hx rfl (hb hby d9_12) rfl (XS.isub X3.here hx rfl (hb hby d9_13) rfl (XS.ifNo X3.here hx rfl (hb hby d9_14) rfl ((if0 _ _).trans (tlt (hgt : (0 : Int32) < (p2 - (16 : Int32)))).2.2.2) (XS.aloadN X3.here hx rfl (hb hby d9_17) rfl rfl (XS.aloadN X3.here hx rfl (hb hby d9_18) rfl rfl k))))))) ?_
  obtain ⟨T4, X4, e4, st4⟩ := getF X3 hx hZ hown (host := "") (Or.inl (wq hw 25 rfl)) Via.refl e3 Fv (g := (mkF m 19 #[.val (.ref a1), .val (.int p2), .val (.int (16 : Int32))] [(.ref a1), (.ref a1)])) rfl rfl (hb hby d9_19)
  refine Gl.pre (B := T4.setTop (mkF m 24 #[.val (.ref a1), .val (.int p2), .val (.int (16 : Int32))] [(.int p2), (.ref a1), (.ref t), (.ref a1)])) (fun _ k => st4 _ (XS.aloadN X4.here hx rfl (hb hby d9_22) rfl rfl (XS.iloadN X4.here hx rfl (hb hby d9_23) rfl k))) ?_
  obtain ⟨cq5, kq5, q5a, q5b, q5c⟩ := isOf hZ e4 E_a1
  obtain ⟨rv5, _, ⟨T5, L5, k5, n5⟩, -, X5, ⟨Lc5, hQ5, l5, y5, z5⟩, st5⟩ := X4.virtualBack hx (y := (⟨"java/lang/AbstractStringBuilder", "newCapacity", "(I)I"⟩ : MethodName)) (z := (⟨"java/lang/AbstractStringBuilder", "newCapacity", "(I)I"⟩ : MethodName)) hown (mvT hZ (wq hw 108 rfl)) (mvT hZ (own_declares (wq hw 109 rfl) (wq hw 112 rfl))) (notFace_of_selects (args := #[]) (mvT hZ (wq hw 111 rfl))) (mvT hZ (wq hw 111 rfl)) (mvT hZ (wq hw 109 rfl)) (by decide) (backOf (W := 2) (newCap l Z a0 hw [] a1 p2 t k cs h0 n0 Z0 Fv Fc V hp) hZ (wq hw 112 rfl) (wq hw 17 rfl) (by decide) (by decide)) q5a q5c (g := (mkF m 24 #[.val (.ref a1), .val (.int p2), .val (.int (16 : Int32))] [(.int p2), (.ref a1), (.ref t), (.ref a1)])) rfl (by rw [hml]; rfl) (Steps.refl _) (argsL := [(.int p2)]) (rest := [(.ref t), (.ref a1)]) (lenOf pd_16 rfl) rfl (by show 2 * 0 + _ ≤ _; exact Nat.le_of_eq rfl) (hb hby d9_24) (fun _ _ => ⟨rfl, e4, (by decide : 0 + 0 ≤ _), (by decide : 0 + 0 ≤ _)⟩)
  dsimp only [Pt.U, Pt.locs, Pt.cells, Pt.slots] at X5 l5 y5 z5 st5 hQ5
  have X5 := own_reb X5 l5 y5 z5
  obtain ⟨rfl, N5q, e5⟩ := hQ5
  have N5 := Fr.app N0 N5q
  refine Gl.pre (B := T5.setTop (mkF m 28 #[.val (.ref a1), .val (.int p2), .val (.int (16 : Int32))] [(.ref a1), (.int (34 : Int32)), (.ref t), (.ref a1)])) (fun _ k => st5.trans (XS.aloadN X5.here hx rfl (hb hby d9_27) rfl rfl k)) ?_
  obtain ⟨T6, X6, e6, st6⟩ := getF X5 hx hZ hown (host := "") (Or.inl (wq hw 27 rfl)) Via.refl e5 Fc (g := (mkF m 28 #[.val (.ref a1), .val (.int p2), .val (.int (16 : Int32))] [(.ref a1), (.int (34 : Int32)), (.ref t), (.ref a1)])) rfl rfl (hb hby d9_28)
  refine Gl.pre (B := T6.setTop (mkF m 32 #[.val (.ref a1), .val (.int p2), .val (.int (16 : Int32))] [(.int ((34 : Int32) <<< ((0 : Int32) &&& 31))), (.ref t), (.ref a1)])) (fun _ k => st6 _ (XS.ishl X6.here hx rfl (hb hby d9_31) rfl k)) ?_
  rw [show ((34 : Int32) <<< ((0 : Int32) &&& 31)) = (34 : Int32) from by decide]
  obtain ⟨rv7, _, ⟨T7, L7, k7, n7⟩, -, X7, ⟨Lc7, hQ7, l7, y7, z7⟩, st7⟩ := Jvm.LawKit.callS X6 hx (y := (⟨"java/util/Arrays", "copyOf", "([BI)[B"⟩ : MethodName)) hown (mvT hZ (wq hw 123 rfl)) (mvT hZ (wq hw 124 rfl)) (mvT hZ (wq hw 125 rfl)) (mvT hZ (wq hw 126 rfl)) (by decide) (backOf (W := 1) (copyOf l Z a0 hw [] t k cs h0 n0 Z0 V hl) hZ (wq hw 126 rfl) (wq hw 125 rfl) (by decide) (by decide)) (g := (mkF m 32 #[.val (.ref a1), .val (.int p2), .val (.int (16 : Int32))] [(.int (34 : Int32)), (.ref t), (.ref a1)])) rfl (by rw [hml]; rfl) (argsL := [(.ref t), (.int (34 : Int32))]) (rest := [(.ref a1)]) (lenOf pd_17 rfl) rfl (by show 2 * 0 + _ ≤ _; exact Nat.le_of_eq rfl) (hb hby d9_32) (fun _ _ => ⟨rfl, e6, (by decide : 0 + 1 ≤ _), (by decide : 0 + 34 ≤ _)⟩)
  dsimp only [Pt.U, Pt.locs, Pt.cells, Pt.slots] at X7 l7 y7 z7 st7 hQ7
  have X7 := own_reb X7 l7 y7 z7
  obtain ⟨tt_7, kk_7, rfl, N7q, K7, nz_tt_7, V_7⟩ := hQ7
  have N7 := Fr.app N5 N7q
  have ne_a1_tt_7 : a1 ≠ tt_7 := Nat.ne_of_lt (Nat.lt_of_lt_of_le Fv.lt nz_tt_7)
  have sz_tt_7 : h0.size ≤ tt_7 := Nat.le_trans K0.1 nz_tt_7
  have Fv := Fv.keep K7 nin0
  have Fc := Fc.keep K7 nin0
  have E_a1 := E_a1.keep K7
  have Fn := Fn.keep K7 nin0
  have K0 := K0.trans K7 (fun _ q => nomatch q)
  refine Gl.pre (B := T7.setTop (mkF m 35 #[.val (.ref a1), .val (.int p2), .val (.int (16 : Int32))] [(.ref tt_7), (.ref a1)])) (fun _ k => st7 _ k) ?_
  obtain ⟨T8, h8, X8, e8, W8, st8⟩ := putF X7 hx hZ hown (host := "") (Or.inl (wq hw 25 rfl)) Via.refl rfl Fv E_a1 (Or.inl (wq hw 26 rfl)) (wq hw 8 rfl) (ty := (.array .byte)) (by decide) rfl rfl (g := (mkF m 35 #[.val (.ref a1), .val (.int p2), .val (.int (16 : Int32))] [(.ref tt_7), (.ref a1)])) rfl rfl (hb hby d9_35)
  have N8 := Fr.snoc X8 N7 g_a1
  have Fv_n := Fv.same W8
  have Fc := Fc.other W8 (Or.inr (slot_ne (Or.inl (wq hw 28 rfl)) (Or.inl (wq hw 26 rfl)) (by decide) (t := .byte) (t' := (.array .byte)) (by decide) (by decide)))
  have Fn := Fn.other W8 (Or.inr (slot_ne (Or.inl (wq hw 59 rfl)) (Or.inl (wq hw 26 rfl)) (by decide) (t := .int) (t' := (.array .byte)) (by decide) (by decide)))
  have K0 := K0.wr W8 (Or.inl (List.mem_of_getElem? (i := 0) rfl))
  have V_7 := V_7.other W8 (Ne.symm ne_a1_tt_7)
  have Fv := Fv_n
  refine Gl.pre (B := T8.setTop (mkF m 38 #[.val (.ref a1), .val (.int p2), .val (.int (16 : Int32))] [])) (fun _ k => st8 _ k) ?_
  refine Gl.out X8 (v := none) (fun _ => rfl) hlk (fun fs hr => X8.returnOut hx hret (hb hby d9_38) hr) ?_ (by decide) (by decide)
  show Q_ensCapG Z _ _ _ _ _ _ h0 n0 _ T8.heap _
  rw [e8]
  exact ⟨tt_7, kk_7, rfl, N8, K0, sz_tt_7, Fv, Fc, Fn, V_7⟩
theorem gc_tab {Z : State} {a0 : Array Value} (hw : ∀ d ∈ tables_1, d.before a0 Z = true) : GetChars.tab.before a0 Z = true := by
  simp only [GetChars.tab, Cond.before_and, Bool.and_eq_true]
  exact ⟨(wq hw 105 rfl), (wq hw 106 rfl), (wq hw 271 rfl)⟩
theorem ss_tab {Z : State} {a0 : Array Value} (hw : ∀ d ∈ tables_1, d.before a0 Z = true) : StrSize.tab.before a0 Z = true := (wq hw 97 rfl)
theorem ic_ini {Z : State} {a0 : Array Value} (hw : ∀ d ∈ tables_1, d.before a0 Z = true) : (Jvm.Cond.initialized INT).before a0 Z = true := (wq hw 96 rfl)
theorem pd_18 : parseMethodDescriptor "(II[B)I" = some ⟨[.int, .int, (.array .byte)], some .int⟩ := by decide +kernel
theorem d14_0 : decode jdk_68_method_32_code 0 = .ok (.aload_n 0, 1) := by decide +kernel
theorem d14_1 : decode jdk_68_method_32_code 1 = .ok (.getfield 79, 3) := by decide +kernel
theorem d14_4 : decode jdk_68_method_32_code 4 = .ok (.istore_n 2, 1) := by decide +kernel
theorem d14_5 : decode jdk_68_method_32_code 5 = .ok (.iload_n 2, 1) := by decide +kernel
theorem d14_6 : decode jdk_68_method_32_code 6 = .ok (.iload_n 1, 1) := by decide +kernel
theorem d14_7 : decode jdk_68_method_32_code 7 = .ok (.invokestatic 245, 3) := by decide +kernel
theorem d14_10 : decode jdk_68_method_32_code 10 = .ok (.iadd, 1) := by decide +kernel
theorem d14_11 : decode jdk_68_method_32_code 11 = .ok (.istore_n 3, 1) := by decide +kernel
theorem d14_12 : decode jdk_68_method_32_code 12 = .ok (.aload_n 0, 1) := by decide +kernel
theorem d14_13 : decode jdk_68_method_32_code 13 = .ok (.iload_n 3, 1) := by decide +kernel
theorem d14_14 : decode jdk_68_method_32_code 14 = .ok (.invokevirtual 100, 3) := by decide +kernel
theorem d14_17 : decode jdk_68_method_32_code 17 = .ok (.aload_n 0, 1) := by decide +kernel
theorem d14_18 : decode jdk_68_method_32_code 18 = .ok (.invokevirtual 83, 3) := by decide +kernel
theorem d14_21 : decode jdk_68_method_32_code 21 = .ok (.ifCond .eq 16, 3) := by decide +kernel
theorem d14_24 : decode jdk_68_method_32_code 24 = .ok (.iload_n 1, 1) := by decide +kernel
theorem d14_25 : decode jdk_68_method_32_code 25 = .ok (.iload_n 3, 1) := by decide +kernel
theorem d14_26 : decode jdk_68_method_32_code 26 = .ok (.aload_n 0, 1) := by decide +kernel
theorem d14_27 : decode jdk_68_method_32_code 27 = .ok (.getfield 15, 3) := by decide +kernel
theorem d14_30 : decode jdk_68_method_32_code 30 = .ok (.invokestatic 248, 3) := by decide +kernel
theorem d14_33 : decode jdk_68_method_32_code 33 = .ok (.pop, 1) := by decide +kernel
theorem d14_34 : decode jdk_68_method_32_code 34 = .ok (.goto 14, 3) := by decide +kernel
theorem d14_48 : decode jdk_68_method_32_code 48 = .ok (.aload_n 0, 1) := by decide +kernel
theorem d14_49 : decode jdk_68_method_32_code 49 = .ok (.iload_n 3, 1) := by decide +kernel
theorem d14_50 : decode jdk_68_method_32_code 50 = .ok (.putfield 79, 3) := by decide +kernel
theorem d14_53 : decode jdk_68_method_32_code 53 = .ok (.aload_n 0, 1) := by decide +kernel
theorem d14_54 : decode jdk_68_method_32_code 54 = .ok (.areturn, 1) := by decide +kernel
theorem ef_asbAppI (m : MethodId) (x0 : Addr) (x1 : Int32) : entryFrame m #[(.ref x0), (.int x1)] 4 = mkF m 0 #[.val (.ref x0), .val (.int x1), .unset, .unset] [] := by first | (simp [entryFrame, mkF, argsToLocals, Value.category]; done) | rfl
def Q_asbAppI (Z : State) (a1 : Addr) (p2 : Int32) (t : Addr) (k : ClassId) (cs : List Int32) (G1 : Int32) (sT : Addr) (dA : Addr) (dB : Addr) (DA : Cell) (DB : Cell) (h0 : Heap) (n0 : Nat) (v : Option Value) (h : Heap) (L : List Loc) : Prop := v = some (.ref a1) ∧ Fr n0 L ∧ (Keep h0 h [a1, t]) ∧ (SBs Z h a1 t k 16 (cs ++ decL p2))
set_option maxRecDepth 65536 in
set_option maxHeartbeats 40000000 in
theorem asbAppI (l : Launch) (Z : State) (a0 : Array Value) (hw : ∀ d ∈ tables_1, d.before a0 Z = true) (ws : List Jvm.Cond) (a1 : Addr) (p2 : Int32) (t : Addr) (k : ClassId) (cs : List Int32) (G1 : Int32) (sT : Addr) (dA : Addr) (dB : Addr) (DA : Cell) (DB : Cell) (h0 : Heap) (n0 : Nat) (Z0 : n0 ≤ h0.size) (sb : SBs Z h0 a1 t k 16 cs) (g_a1 : n0 ≤ a1) (g_t : n0 ≤ t) (hne : a1 ≠ t) (hr : cs.length + szN p2 ≤ 16) (O2 : Sta Z Z.heap "java/lang/String" "COMPACT_STRINGS" "Z" (.int G1)) (P5 : ¬ (G1 = (0 : Int32))) (Od : Old Z n0 h0) (tbA : SBG.Tbl Z "DigitOnes" sT dA DA) (onA : SBG.Ones DA) (tbB : SBG.Tbl Z "DigitTens" sT dB DB) (onB : SBG.Tens DB) :
    MetFree l (⟨"java/lang/AbstractStringBuilder", "append", "(I)Ljava/lang/AbstractStringBuilder;"⟩ : MethodName) (head1 (Jvm.Cond.code (⟨"java/lang/AbstractStringBuilder", "append", "(I)Ljava/lang/AbstractStringBuilder;"⟩ : MethodName) jdk_68_method_32_code 4 (some (.object "java/lang/AbstractStringBuilder")) :: ws) ({ frames := 2, cells := 0, slots := 0, locals := 78 } : Room)) (fun a U => a = #[(.ref a1), (.int p2)] ∧ Z.Warmed39 U.vm ∧ U.heap = h0) (fun _ _ _ _ _ => True) (fun _ U o U' => ∃ v L, o = .returned v ∧ Q_asbAppI Z a1 p2 t k cs G1 sT dA dB DA DB h0 n0 v U'.heap L ∧ FrameEnd U o U' L ({ frames := 2, cells := 0, slots := 0, locals := 78 } : Room).cells ({ frames := 2, cells := 0, slots := 0, locals := 78 } : Room).slots) := by
  refine MetFree.of_bodySF (plainFor_of_name pn_java_lang_AbstractStringBuilder) hisR ?_
  intro p e s m args below meth c s₁ Bd hml0 hP hK
  obtain ⟨rfl, hZ, hh⟩ := hP
  have hx := Bd.exec
  have hby := Bd.bytes
  have hml : c.maxLocals = 4 := hml0
  have hown : s.vm.findClass "java/lang/AbstractStringBuilder" = some m.cls := findClass_of_methodNamed Bd.named
  have hnm := (name_of_methodNamed Bd.named Bd.method).1
  have hret : meth.sig.returnType = (some (.object "java/lang/AbstractStringBuilder")) := Bd.returns
  have hlk : meth.locks = false := BodyLoose.notSynchronized Bd
  have X0 : Stand p l e ({ frames := 2, cells := 0, slots := 0, locals := 78 } : Room) s m #[(.ref a1), (.int p2)] below meth c s₁ [] 0 0 := Stand.of_body Bd
  have e0 : s₁.heap = h0 := by rw [← hh, Bd.state]; rfl
  have N0 := Fr.nil n0
  have K0 : Keep h0 h0 [a1, t] := Keep.refl h0 _
  show Gl p.tables e below s (Q_asbAppI Z a1 p2 t k cs G1 sT dA dB DA DB h0 n0) 0 0 _
  refine Gl.pre (B := s₁.setTop (mkF m 0 #[.val (.ref a1), .val (.int p2), .unset, .unset] [])) (fun _ k => castTop (ef_asbAppI m a1 p2) k) ?_
  obtain ⟨E_a1, Fv_a1, Fc_a1, Fn_a1, V_t, hl_a1, hc_a1, hb_a1⟩ := id sb
  refine Gl.pre (B := s₁.setTop (mkF m 1 #[.val (.ref a1), .val (.int p2), .unset, .unset] [(.ref a1)])) (fun _ k => XS.aloadN X0.here hx rfl (hb hby d14_0) rfl rfl k) ?_
  obtain ⟨T1, X1, e1, st1⟩ := getF X0 hx hZ hown (host := "") (Or.inl (wq hw 58 rfl)) Via.refl e0 Fn_a1 (g := (mkF m 1 #[.val (.ref a1), .val (.int p2), .unset, .unset] [(.ref a1)])) rfl rfl (hb hby d14_1)
  refine Gl.pre (B := T1.setTop (mkF m 7 #[.val (.ref a1), .val (.int p2), .val (.int (Int32.ofNat cs.length)), .unset] [(.int p2), (.int (Int32.ofNat cs.length))])) (fun _ k => st1 _ (XS.istoreN X1.here hx rfl (hb hby d14_4) rfl (l' := #[.val (.ref a1), .val (.int p2), .val (.int (Int32.ofNat cs.length)), .unset]) rfl (XS.iloadN X1.here hx rfl (hb hby d14_5) rfl (XS.iloadN X1.here hx rfl (hb hby d14_6) rfl k)))) ?_
  obtain ⟨rv2, _, ⟨T2, L2, k2, n2⟩, -, X2, ⟨Lc2, hQ2, l2, y2, z2⟩, st2⟩ := Jvm.LawKit.callS X1 hx (y := (⟨"java/lang/Integer", "stringSize", "(I)I"⟩ : MethodName)) hown (mvT hZ (wq hw 94 rfl)) (mvT hZ (wq hw 95 rfl)) (mvT hZ (wq hw 96 rfl)) (mvT hZ (wq hw 97 rfl)) (by decide) (own_ss (W := 1) (n0 := n0) (h := h0) p2 hZ (ss_tab hw) (ic_ini hw) (by decide) (by decide)) (g := (mkF m 7 #[.val (.ref a1), .val (.int p2), .val (.int (Int32.ofNat cs.length)), .unset] [(.int p2), (.int (Int32.ofNat cs.length))])) rfl (by rw [hml]; rfl) (argsL := [(.int p2)]) (rest := [(.int (Int32.ofNat cs.length))]) (lenOf pd_16 rfl) rfl (by show 2 * 0 + _ ≤ _; exact Nat.le_of_eq rfl) (hb hby d14_7) (fun _ _ => ⟨rfl, e1, (by decide : 0 + 0 ≤ _), (by decide : 0 + 0 ≤ _)⟩)
  dsimp only [Pt.U, Pt.locs, Pt.cells, Pt.slots] at X2 l2 y2 z2 st2 hQ2
  have X2 := own_reb X2 l2 y2 z2
  obtain ⟨rfl, N2q, e2⟩ := hQ2
  have N2 := Fr.app N0 N2q
  refine Gl.pre (B := T2.setTop (mkF m 11 #[.val (.ref a1), .val (.int p2), .val (.int (Int32.ofNat cs.length)), .unset] [(.int ((Int32.ofNat cs.length) + (Int32.ofNat (szN p2))))])) (fun _ k => st2 _ (XS.iadd X2.here hx rfl (hb hby d14_10) rfl k)) ?_
  rw [own_add32]
  refine Gl.pre (B := T2.setTop (mkF m 14 #[.val (.ref a1), .val (.int p2), .val (.int (Int32.ofNat cs.length)), .val (.int (Int32.ofNat (cs.length + szN p2)))] [(.int (Int32.ofNat (cs.length + szN p2))), (.ref a1)])) (fun _ k => XS.istoreN X2.here hx rfl (hb hby d14_11) rfl (l' := #[.val (.ref a1), .val (.int p2), .val (.int (Int32.ofNat cs.length)), .val (.int (Int32.ofNat (cs.length + szN p2)))]) rfl (XS.aloadN X2.here hx rfl (hb hby d14_12) rfl rfl (XS.iloadN X2.here hx rfl (hb hby d14_13) rfl k))) ?_
  obtain ⟨cq3, kq3, q3a, q3b, q3c⟩ := isOf hZ e2 E_a1
  obtain ⟨rv3, _, ⟨T3, L3, k3, n3⟩, -, X3, ⟨Lc3, hQ3, l3, y3, z3⟩, st3⟩ := X2.virtualBack hx (y := (⟨"java/lang/AbstractStringBuilder", "ensureCapacityInternal", "(I)V"⟩ : MethodName)) (z := (⟨"java/lang/AbstractStringBuilder", "ensureCapacityInternal", "(I)V"⟩ : MethodName)) hown (mvT hZ (wq hw 60 rfl)) (mvT hZ (own_declares (wq hw 61 rfl) (wq hw 64 rfl))) (notFace_of_selects (args := #[]) (mvT hZ (wq hw 63 rfl))) (mvT hZ (wq hw 63 rfl)) (mvT hZ (wq hw 61 rfl)) (by decide) (backOf (W := 0) (ensCap l Z a0 hw [] a1 (Int32.ofNat (cs.length + szN p2)) t k (Int32.ofNat 16) (byt cs ++ List.replicate (16 - cs.length) (.int 0)) h0 n0 Z0 Fv_a1 Fc_a1 V_t (own_le16 hr)) hZ (wq hw 64 rfl) (wq hw 17 rfl) (by decide) (by decide)) q3a q3c (g := (mkF m 14 #[.val (.ref a1), .val (.int p2), .val (.int (Int32.ofNat cs.length)), .val (.int (Int32.ofNat (cs.length + szN p2)))] [(.int (Int32.ofNat (cs.length + szN p2))), (.ref a1)])) rfl (by rw [hml]; rfl) (Steps.refl _) (argsL := [(.int (Int32.ofNat (cs.length + szN p2)))]) (rest := []) (lenOf pd_3 rfl) rfl (by show 2 * 0 + _ ≤ _; exact Nat.le_of_eq rfl) (hb hby d14_14) (fun _ _ => ⟨rfl, e2, (by decide : 0 + 0 ≤ _), (by decide : 0 + 0 ≤ _)⟩)
  dsimp only [Pt.U, Pt.locs, Pt.cells, Pt.slots] at X3 l3 y3 z3 st3 hQ3
  have X3 := own_reb X3 l3 y3 z3
  obtain ⟨rfl, N3q, e3⟩ := hQ3
  have N3 := Fr.app N2 N3q
  refine Gl.pre (B := T3.setTop (mkF m 18 #[.val (.ref a1), .val (.int p2), .val (.int (Int32.ofNat cs.length)), .val (.int (Int32.ofNat (cs.length + szN p2)))] [(.ref a1)])) (fun _ k => st3.trans (XS.aloadN X3.here hx rfl (hb hby d14_17) rfl rfl k)) ?_
  obtain ⟨cq4, kq4, q4a, q4b, q4c⟩ := isOf hZ e3 E_a1
  obtain ⟨rv4, _, ⟨T4, L4, k4, n4⟩, -, X4, ⟨Lc4, hQ4, l4, y4, z4⟩, st4⟩ := X3.virtualBack hx (y := (⟨"java/lang/AbstractStringBuilder", "isLatin1", "()Z"⟩ : MethodName)) (z := (⟨"java/lang/AbstractStringBuilder", "isLatin1", "()Z"⟩ : MethodName)) hown (mvT hZ (wq hw 98 rfl)) (mvT hZ (wq hw 99 rfl)) (notFace_of_selects (args := #[]) (mvT hZ (wq hw 101 rfl))) (mvT hZ (wq hw 101 rfl)) (mvT hZ (wq hw 100 rfl)) (by decide) (backOf (W := 0) (asbLat l Z a0 hw [] a1 G1 h0 n0 Z0 Fc_a1 O2 P5 Od) hZ (wq hw 102 rfl) (wq hw 17 rfl) (by decide) (by decide)) q4a q4c (g := (mkF m 18 #[.val (.ref a1), .val (.int p2), .val (.int (Int32.ofNat cs.length)), .val (.int (Int32.ofNat (cs.length + szN p2)))] [(.ref a1)])) rfl (by rw [hml]; rfl) (Steps.refl _) (argsL := []) (rest := []) (lenOf pd_12 rfl) rfl (by show 2 * 0 + _ ≤ _; exact Nat.le_of_eq rfl) (hb hby d14_18) (fun _ _ => ⟨rfl, e3, (by decide : 0 + 0 ≤ _), (by decide : 0 + 0 ≤ _)⟩)
  dsimp only [Pt.U, Pt.locs, Pt.cells, Pt.slots] at X4 l4 y4 z4 st4 hQ4
  have X4 := own_reb X4 l4 y4 z4
  obtain ⟨rfl, N4q, e4⟩ := hQ4
  have N4 := Fr.app N3 N4q
  refine Gl.pre (B := T4.setTop (mkF m 27 #[.val (.ref a1), .val (.int p2), .val (.int (Int32.ofNat cs.length)), .val (.int (Int32.ofNat (cs.length + szN p2)))] [(.ref a1), (.int (Int32.ofNat (cs.length + szN p2))), (.int p2)])) (fun _ k => st4.trans (XS.ifNo X4.here hx rfl (hb hby d14_21) rfl ((if0 _ _).trans (feq (by decide : ¬ ((1 : Int32) = (0 : Int32)))).1) (XS.iloadN X4.here hx rfl (hb hby d14_24) rfl (XS.iloadN X4.here hx rfl (hb hby d14_25) rfl (XS.aloadN X4.here hx rfl (hb hby d14_26) rfl rfl k))))) ?_
  obtain ⟨T5, X5, e5, st5⟩ := getF X4 hx hZ hown (host := "") (Or.inl (wq hw 25 rfl)) Via.refl e4 Fv_a1 (g := (mkF m 27 #[.val (.ref a1), .val (.int p2), .val (.int (Int32.ofNat cs.length)), .val (.int (Int32.ofNat (cs.length + szN p2)))] [(.ref a1), (.int (Int32.ofNat (cs.length + szN p2))), (.int p2)])) rfl rfl (hb hby d14_27)
  refine Gl.pre (B := T5.setTop (mkF m 30 #[.val (.ref a1), .val (.int p2), .val (.int (Int32.ofNat cs.length)), .val (.int (Int32.ofNat (cs.length + szN p2)))] [(.ref t), (.int (Int32.ofNat (cs.length + szN p2))), (.int p2)])) (fun _ k => st5 _ k) ?_
  obtain ⟨cA, ArA, kA, SzA, NnA, HsA, GfA⟩ := id V_t
  obtain ⟨rv6, _, ⟨T6, L6, k6, n6⟩, -, X6, ⟨Lc6, hQ6, l6, y6, z6⟩, st6⟩ := Jvm.LawKit.callS X5 hx (y := (⟨"java/lang/Integer", "getChars", "(II[B)I"⟩ : MethodName)) hown (mvT hZ (wq hw 103 rfl)) (mvT hZ (wq hw 104 rfl)) (mvT hZ (wq hw 96 rfl)) (mvT hZ (wq hw 105 rfl)) (by decide) (own_gc (W := 0) (n0 := n0) ⟨p2, absN p2, cs.length + szN p2, t, cA, sT, dA, DA, dB, DB⟩ hZ (gc_tab hw) (ic_ini hw) (own_gcP (cap := 16) Od ArA SzA (by decide) hr g_t tbA tbB) ArA.1 (own_by HsA) (abs_le p2) (Nat.le_add_left _ _) g_t (by decide) (by decide)) (g := (mkF m 30 #[.val (.ref a1), .val (.int p2), .val (.int (Int32.ofNat cs.length)), .val (.int (Int32.ofNat (cs.length + szN p2)))] [(.ref t), (.int (Int32.ofNat (cs.length + szN p2))), (.int p2)])) rfl (by rw [hml]; rfl) (argsL := [(.int p2), (.int (Int32.ofNat (cs.length + szN p2))), (.ref t)]) (rest := []) (lenOf pd_18 rfl) rfl (by show 2 * 0 + _ ≤ _; exact Nat.le_of_eq rfl) (hb hby d14_30) (fun _ _ => ⟨rfl, e5, (by decide : 0 + 0 ≤ _), (by decide : 0 + 0 ≤ _)⟩)
  dsimp only [Pt.U, Pt.locs, Pt.cells, Pt.slots] at X6 l6 y6 z6 st6 hQ6
  have X6 := own_reb X6 l6 y6 z6
  obtain ⟨rfl, N6q, K6, ht6⟩ := hQ6
  have N6 := Fr.app N4 N6q
  have K0 := K0.trans K6 (allS (Or.inl (List.mem_of_getElem? (i := 1) rfl)) all0)
  have E_a1 := E_a1.keep K6
  have Fv_a1 := Fv_a1.keep K6 (ninS hne nin0)
  have Fc_a1 := Fc_a1.keep K6 (ninS hne nin0)
  have Fn_a1 := Fn_a1.keep K6 (ninS hne nin0)
  have V_tg := own_gc_arv (cap := 16) ArA kA SzA HsA (by decide) hr onA onB ht6
  refine Gl.pre (B := T6.setTop (mkF m 50 #[.val (.ref a1), .val (.int p2), .val (.int (Int32.ofNat cs.length)), .val (.int (Int32.ofNat (cs.length + szN p2)))] [(.int (Int32.ofNat (cs.length + szN p2))), (.ref a1)])) (fun _ k => st6 _ (XS.pop X6.here hx rfl (hb hby d14_33) rfl rfl (XS.goto X6.here hx rfl (pc0 := 34) (pc' := 48) rfl (hb hby d14_34) (by decide) (by decide) (XS.aloadN X6.here hx rfl (hb hby d14_48) rfl rfl (XS.iloadN X6.here hx rfl (hb hby d14_49) rfl k))))) ?_
  obtain ⟨T7, h7, X7, e7, W7, st7⟩ := putF X6 hx hZ hown (host := "") (Or.inl (wq hw 58 rfl)) Via.refl rfl Fn_a1 E_a1 (Or.inl (wq hw 59 rfl)) (wq hw 8 rfl) (ty := .int) (by decide) rfl rfl (g := (mkF m 50 #[.val (.ref a1), .val (.int p2), .val (.int (Int32.ofNat cs.length)), .val (.int (Int32.ofNat (cs.length + szN p2)))] [(.int (Int32.ofNat (cs.length + szN p2))), (.ref a1)])) rfl rfl (hb hby d14_50)
  have N7 := Fr.snoc X7 N6 g_a1
  have Fn_a1_n := Fn_a1.same W7
  have K0 := K0.wr W7 (Or.inl (List.mem_of_getElem? (i := 0) rfl))
  have E_a1 := E_a1.wr W7
  have Fv_a1 := Fv_a1.other W7 (Or.inr (slot_ne (Or.inl (wq hw 26 rfl)) (Or.inl (wq hw 59 rfl)) (by decide) (t := (.array .byte)) (t' := .int) (by decide) (by decide)))
  have Fc_a1 := Fc_a1.other W7 (Or.inr (slot_ne (Or.inl (wq hw 28 rfl)) (Or.inl (wq hw 59 rfl)) (by decide) (t := .byte) (t' := .int) (by decide) (by decide)))
  have V_tg := V_tg.other W7 (Ne.symm hne)
  have Fn_a1 := Fn_a1_n
  refine Gl.pre (B := T7.setTop (mkF m 54 #[.val (.ref a1), .val (.int p2), .val (.int (Int32.ofNat cs.length)), .val (.int (Int32.ofNat (cs.length + szN p2)))] [(.ref a1)])) (fun _ k => st7 _ (XS.aloadN X7.here hx rfl (hb hby d14_53) rfl rfl k)) ?_
  refine Gl.out X7 (v := some (.ref a1)) (fun h => by rw [hret] at h; cases h) hlk (fun fs hr => retOut X7 hx hret rfl (Or.inr (Or.inr (Or.inr (Or.inr ⟨rfl, rfl, rfl⟩)))) (hb hby d14_54) hr) ?_ (by decide) (by decide)
  show Q_asbAppI Z _ _ _ _ _ _ _ _ _ _ _ h0 n0 _ T7.heap _
  rw [e7]
  exact ⟨rfl, N7, K0, E_a1, Fv_a1, Fc_a1, by rw [List.length_append, decL_len]; exact Fn_a1, V_tg, by rw [List.length_append, decL_len]; exact hr, Nat.le_of_ble_eq_true rfl, own_all_app hb_a1 (decL_rng p2)⟩
theorem pd_19 : parseMethodDescriptor "(I)Ljava/lang/AbstractStringBuilder;" = some ⟨[.int], some (.object "java/lang/AbstractStringBuilder")⟩ := by decide +kernel
theorem d13_0 : decode jdk_67_method_15_code 0 = .ok (.aload_n 0, 1) := by decide +kernel
theorem d13_1 : decode jdk_67_method_15_code 1 = .ok (.iload_n 1, 1) := by decide +kernel
theorem d13_2 : decode jdk_67_method_15_code 2 = .ok (.invokespecial 53, 3) := by decide +kernel
theorem d13_5 : decode jdk_67_method_15_code 5 = .ok (.pop, 1) := by decide +kernel
theorem d13_6 : decode jdk_67_method_15_code 6 = .ok (.aload_n 0, 1) := by decide +kernel
theorem d13_7 : decode jdk_67_method_15_code 7 = .ok (.areturn, 1) := by decide +kernel
theorem ef_sbAppI (m : MethodId) (x0 : Addr) (x1 : Int32) : entryFrame m #[(.ref x0), (.int x1)] 2 = mkF m 0 #[.val (.ref x0), .val (.int x1)] [] := by first | (simp [entryFrame, mkF, argsToLocals, Value.category]; done) | rfl
def Q_sbAppI (Z : State) (a1 : Addr) (p2 : Int32) (t : Addr) (k : ClassId) (cs : List Int32) (G1 : Int32) (sT : Addr) (dA : Addr) (dB : Addr) (DA : Cell) (DB : Cell) (h0 : Heap) (n0 : Nat) (v : Option Value) (h : Heap) (L : List Loc) : Prop := v = some (.ref a1) ∧ Fr n0 L ∧ (Keep h0 h [a1, t]) ∧ (SBs Z h a1 t k 16 (cs ++ decL p2))
set_option maxRecDepth 65536 in
set_option maxHeartbeats 40000000 in
theorem sbAppI (l : Launch) (Z : State) (a0 : Array Value) (hw : ∀ d ∈ tables_1, d.before a0 Z = true) (ws : List Jvm.Cond) (a1 : Addr) (p2 : Int32) (t : Addr) (k : ClassId) (cs : List Int32) (G1 : Int32) (sT : Addr) (dA : Addr) (dB : Addr) (DA : Cell) (DB : Cell) (h0 : Heap) (n0 : Nat) (Z0 : n0 ≤ h0.size) (sb : SBs Z h0 a1 t k 16 cs) (g_a1 : n0 ≤ a1) (g_t : n0 ≤ t) (hne : a1 ≠ t) (hr : cs.length + szN p2 ≤ 16) (O2 : Sta Z Z.heap "java/lang/String" "COMPACT_STRINGS" "Z" (.int G1)) (P5 : ¬ (G1 = (0 : Int32))) (Od : Old Z n0 h0) (tbA : SBG.Tbl Z "DigitOnes" sT dA DA) (onA : SBG.Ones DA) (tbB : SBG.Tbl Z "DigitTens" sT dB DB) (onB : SBG.Tens DB) :
    MetFree l (⟨"java/lang/StringBuilder", "append", "(I)Ljava/lang/StringBuilder;"⟩ : MethodName) (head1 (Jvm.Cond.code (⟨"java/lang/StringBuilder", "append", "(I)Ljava/lang/StringBuilder;"⟩ : MethodName) jdk_67_method_15_code 2 (some (.object "java/lang/StringBuilder")) :: ws) ({ frames := 3, cells := 0, slots := 0, locals := 93 } : Room)) (fun a U => a = #[(.ref a1), (.int p2)] ∧ Z.Warmed39 U.vm ∧ U.heap = h0) (fun _ _ _ _ _ => True) (fun _ U o U' => ∃ v L, o = .returned v ∧ Q_sbAppI Z a1 p2 t k cs G1 sT dA dB DA DB h0 n0 v U'.heap L ∧ FrameEnd U o U' L ({ frames := 3, cells := 0, slots := 0, locals := 93 } : Room).cells ({ frames := 3, cells := 0, slots := 0, locals := 93 } : Room).slots) := by
  refine MetFree.of_bodySF (plainFor_of_name pn_java_lang_StringBuilder) hisR ?_
  intro p e s m args below meth c s₁ Bd hml0 hP hK
  obtain ⟨rfl, hZ, hh⟩ := hP
  have hx := Bd.exec
  have hby := Bd.bytes
  have hml : c.maxLocals = 2 := hml0
  have hown : s.vm.findClass "java/lang/StringBuilder" = some m.cls := findClass_of_methodNamed Bd.named
  have hnm := (name_of_methodNamed Bd.named Bd.method).1
  have hret : meth.sig.returnType = (some (.object "java/lang/StringBuilder")) := Bd.returns
  have hlk : meth.locks = false := BodyLoose.notSynchronized Bd
  have X0 : Stand p l e ({ frames := 3, cells := 0, slots := 0, locals := 93 } : Room) s m #[(.ref a1), (.int p2)] below meth c s₁ [] 0 0 := Stand.of_body Bd
  have e0 : s₁.heap = h0 := by rw [← hh, Bd.state]; rfl
  have N0 := Fr.nil n0
  have K0 : Keep h0 h0 [a1, t] := Keep.refl h0 _
  show Gl p.tables e below s (Q_sbAppI Z a1 p2 t k cs G1 sT dA dB DA DB h0 n0) 0 0 _
  refine Gl.pre (B := s₁.setTop (mkF m 0 #[.val (.ref a1), .val (.int p2)] [])) (fun _ k => castTop (ef_sbAppI m a1 p2) k) ?_
  have E_a1 := sb.1
  refine Gl.pre (B := s₁.setTop (mkF m 2 #[.val (.ref a1), .val (.int p2)] [(.int p2), (.ref a1)])) (fun _ k => XS.aloadN X0.here hx rfl (hb hby d13_0) rfl rfl (XS.iloadN X0.here hx rfl (hb hby d13_1) rfl k)) ?_
  obtain ⟨rv1, _, ⟨T1, L1, k1, n1⟩, -, X1, ⟨Lc1, hQ1, l1, y1, z1⟩, st1⟩ := superBack X0 hx hZ (y := (⟨"java/lang/AbstractStringBuilder", "append", "(I)Ljava/lang/AbstractStringBuilder;"⟩ : MethodName)) hown (wq hw 90 rfl) (own_same (y := (⟨"java/lang/AbstractStringBuilder", "append", "(I)Ljava/lang/AbstractStringBuilder;"⟩ : MethodName)) (wq hw 91 rfl) (wq hw 63 rfl) rfl (by decide)) (wq hw 91 rfl) (wq hw 42 rfl) (by decide) (backOf (W := 0) (asbAppI l Z a0 hw [] a1 p2 t k cs G1 sT dA dB DA DB h0 n0 Z0 sb g_a1 g_t hne hr O2 P5 Od tbA onA tbB onB) hZ (wq hw 93 rfl) (wq hw 17 rfl) (by decide) (by decide)) e0 (Ins.self E_a1) (g := (mkF m 2 #[.val (.ref a1), .val (.int p2)] [(.int p2), (.ref a1)])) rfl (by rw [hml]; rfl) (wq hw 93 rfl) (argsL := [(.int p2)]) (rest := []) (lenOf pd_19 rfl) rfl (by show 2 * 0 + _ ≤ _; exact Nat.le_of_eq rfl) (hb hby d13_2) (fun _ _ => ⟨rfl, e0, (by decide : 0 + 0 ≤ _), (by decide : 0 + 0 ≤ _)⟩)
  dsimp only [Pt.U, Pt.locs, Pt.cells, Pt.slots] at X1 l1 y1 z1 st1 hQ1
  have X1 := own_reb X1 l1 y1 z1
  obtain ⟨rfl, N1q, K1, sb_1⟩ := hQ1
  have N1 := Fr.app N0 N1q
  have K0 := K0.trans K1 (allS (Or.inl (List.mem_of_getElem? (i := 0) rfl)) (allS (Or.inl (List.mem_of_getElem? (i := 1) rfl)) all0))
  refine Gl.pre (B := T1.setTop (mkF m 7 #[.val (.ref a1), .val (.int p2)] [(.ref a1)])) (fun _ k => st1.trans (XS.pop X1.here hx rfl (hb hby d13_5) rfl rfl (XS.aloadN X1.here hx rfl (hb hby d13_6) rfl rfl k))) ?_
  refine Gl.out X1 (v := some (.ref a1)) (fun h => by rw [hret] at h; cases h) hlk (fun fs hr => retOut X1 hx hret rfl (Or.inr (Or.inr (Or.inr (Or.inr ⟨rfl, rfl, rfl⟩)))) (hb hby d13_7) hr) ?_ (by decide) (by decide)
  show Q_sbAppI Z _ _ _ _ _ _ _ _ _ _ _ h0 n0 _ T1.heap _
  exact ⟨rfl, N1, K0, sb_1⟩
theorem ef_asbAppJ (m : MethodId) (x0 : Addr) (x1 : Int32) : entryFrame m #[(.ref x0), (.int x1)] 4 = mkF m 0 #[.val (.ref x0), .val (.int x1), .unset, .unset] [] := by first | (simp [entryFrame, mkF, argsToLocals, Value.category]; done) | rfl
def Q_asbAppJ (Z : State) (a1 : Addr) (p2 : Int32) (t : Addr) (k : ClassId) (cs : List Int32) (G1 : Int32) (sT : Addr) (dA : Addr) (dB : Addr) (DA : Cell) (DB : Cell) (h0 : Heap) (n0 : Nat) (v : Option Value) (h : Heap) (L : List Loc) : Prop := ∃ tt : Addr, ∃ kk : ClassId, v = some (.ref a1) ∧ Fr n0 L ∧ (Keep h0 h [a1]) ∧ (h0.size ≤ tt) ∧ (SBs Z h a1 tt kk 34 (cs ++ decL p2))
set_option maxRecDepth 65536 in
set_option maxHeartbeats 40000000 in
theorem asbAppJ (l : Launch) (Z : State) (a0 : Array Value) (hw : ∀ d ∈ tables_1, d.before a0 Z = true) (ws : List Jvm.Cond) (a1 : Addr) (p2 : Int32) (t : Addr) (k : ClassId) (cs : List Int32) (G1 : Int32) (sT : Addr) (dA : Addr) (dB : Addr) (DA : Cell) (DB : Cell) (h0 : Heap) (n0 : Nat) (Z0 : n0 ≤ h0.size) (sb : SBs Z h0 a1 t k 16 cs) (g_a1 : n0 ≤ a1) (hr : 16 < cs.length + szN p2) (hr4 : cs.length + szN p2 ≤ 34) (O2 : Sta Z Z.heap "java/lang/String" "COMPACT_STRINGS" "Z" (.int G1)) (P5 : ¬ (G1 = (0 : Int32))) (Od : Old Z n0 h0) (tbA : SBG.Tbl Z "DigitOnes" sT dA DA) (onA : SBG.Ones DA) (tbB : SBG.Tbl Z "DigitTens" sT dB DB) (onB : SBG.Tens DB) :
    MetFree l (⟨"java/lang/AbstractStringBuilder", "append", "(I)Ljava/lang/AbstractStringBuilder;"⟩ : MethodName) (head1 (Jvm.Cond.code (⟨"java/lang/AbstractStringBuilder", "append", "(I)Ljava/lang/AbstractStringBuilder;"⟩ : MethodName) jdk_68_method_32_code 4 (some (.object "java/lang/AbstractStringBuilder")) :: ws) ({ frames := 4, cells := 1, slots := 34, locals := 78 } : Room)) (fun a U => a = #[(.ref a1), (.int p2)] ∧ Z.Warmed39 U.vm ∧ U.heap = h0) (fun _ _ _ _ _ => True) (fun _ U o U' => ∃ v L, o = .returned v ∧ Q_asbAppJ Z a1 p2 t k cs G1 sT dA dB DA DB h0 n0 v U'.heap L ∧ FrameEnd U o U' L ({ frames := 4, cells := 1, slots := 34, locals := 78 } : Room).cells ({ frames := 4, cells := 1, slots := 34, locals := 78 } : Room).slots) := by
  refine MetFree.of_bodySF (plainFor_of_name pn_java_lang_AbstractStringBuilder) hisR ?_
  intro p e s m args below meth c s₁ Bd hml0 hP hK
  obtain ⟨rfl, hZ, hh⟩ := hP
  have hx := Bd.exec
  have hby := Bd.bytes
  have hml : c.maxLocals = 4 := hml0
  have hown : s.vm.findClass "java/lang/AbstractStringBuilder" = some m.cls := findClass_of_methodNamed Bd.named
  have hnm := (name_of_methodNamed Bd.named Bd.method).1
  have hret : meth.sig.returnType = (some (.object "java/lang/AbstractStringBuilder")) := Bd.returns
  have hlk : meth.locks = false := BodyLoose.notSynchronized Bd
  have X0 : Stand p l e ({ frames := 4, cells := 1, slots := 34, locals := 78 } : Room) s m #[(.ref a1), (.int p2)] below meth c s₁ [] 0 0 := Stand.of_body Bd
  have e0 : s₁.heap = h0 := by rw [← hh, Bd.state]; rfl
  have N0 := Fr.nil n0
  have K0 : Keep h0 h0 [a1] := Keep.refl h0 _
  show Gl p.tables e below s (Q_asbAppJ Z a1 p2 t k cs G1 sT dA dB DA DB h0 n0) 1 34 _
  refine Gl.pre (B := s₁.setTop (mkF m 0 #[.val (.ref a1), .val (.int p2), .unset, .unset] [])) (fun _ k => castTop (ef_asbAppJ m a1 p2) k) ?_
  obtain ⟨E_a1, Fv_a1, Fc_a1, Fn_a1, V_t, hl_a1, hc_a1, hb_a1⟩ := id sb
  refine Gl.pre (B := s₁.setTop (mkF m 1 #[.val (.ref a1), .val (.int p2), .unset, .unset] [(.ref a1)])) (fun _ k => XS.aloadN X0.here hx rfl (hb hby d14_0) rfl rfl k) ?_
  obtain ⟨T1, X1, e1, st1⟩ := getF X0 hx hZ hown (host := "") (Or.inl (wq hw 58 rfl)) Via.refl e0 Fn_a1 (g := (mkF m 1 #[.val (.ref a1), .val (.int p2), .unset, .unset] [(.ref a1)])) rfl rfl (hb hby d14_1)
  refine Gl.pre (B := T1.setTop (mkF m 7 #[.val (.ref a1), .val (.int p2), .val (.int (Int32.ofNat cs.length)), .unset] [(.int p2), (.int (Int32.ofNat cs.length))])) (fun _ k => st1 _ (XS.istoreN X1.here hx rfl (hb hby d14_4) rfl (l' := #[.val (.ref a1), .val (.int p2), .val (.int (Int32.ofNat cs.length)), .unset]) rfl (XS.iloadN X1.here hx rfl (hb hby d14_5) rfl (XS.iloadN X1.here hx rfl (hb hby d14_6) rfl k)))) ?_
  obtain ⟨rv2, _, ⟨T2, L2, k2, n2⟩, -, X2, ⟨Lc2, hQ2, l2, y2, z2⟩, st2⟩ := Jvm.LawKit.callS X1 hx (y := (⟨"java/lang/Integer", "stringSize", "(I)I"⟩ : MethodName)) hown (mvT hZ (wq hw 94 rfl)) (mvT hZ (wq hw 95 rfl)) (mvT hZ (wq hw 96 rfl)) (mvT hZ (wq hw 97 rfl)) (by decide) (own_ss (W := 1) (n0 := n0) (h := h0) p2 hZ (ss_tab hw) (ic_ini hw) (by decide) (by decide)) (g := (mkF m 7 #[.val (.ref a1), .val (.int p2), .val (.int (Int32.ofNat cs.length)), .unset] [(.int p2), (.int (Int32.ofNat cs.length))])) rfl (by rw [hml]; rfl) (argsL := [(.int p2)]) (rest := [(.int (Int32.ofNat cs.length))]) (lenOf pd_16 rfl) rfl (by show 2 * 0 + _ ≤ _; exact Nat.le_of_eq rfl) (hb hby d14_7) (fun _ _ => ⟨rfl, e1, (by decide : 0 + 0 ≤ _), (by decide : 0 + 0 ≤ _)⟩)
  dsimp only [Pt.U, Pt.locs, Pt.cells, Pt.slots] at X2 l2 y2 z2 st2 hQ2
  have X2 := own_reb X2 l2 y2 z2
  obtain ⟨rfl, N2q, e2⟩ := hQ2
  have N2 := Fr.app N0 N2q
  refine Gl.pre (B := T2.setTop (mkF m 11 #[.val (.ref a1), .val (.int p2), .val (.int (Int32.ofNat cs.length)), .unset] [(.int ((Int32.ofNat cs.length) + (Int32.ofNat (szN p2))))])) (fun _ k => st2 _ (XS.iadd X2.here hx rfl (hb hby d14_10) rfl k)) ?_
  rw [own_add32]
  refine Gl.pre (B := T2.setTop (mkF m 14 #[.val (.ref a1), .val (.int p2), .val (.int (Int32.ofNat cs.length)), .val (.int (Int32.ofNat (cs.length + szN p2)))] [(.int (Int32.ofNat (cs.length + szN p2))), (.ref a1)])) (fun _ k => XS.istoreN X2.here hx rfl (hb hby d14_11) rfl (l' := #[.val (.ref a1), .val (.int p2), .val (.int (Int32.ofNat cs.length)), .val (.int (Int32.ofNat (cs.length + szN p2)))]) rfl (XS.aloadN X2.here hx rfl (hb hby d14_12) rfl rfl (XS.iloadN X2.here hx rfl (hb hby d14_13) rfl k))) ?_
  obtain ⟨cq3, kq3, q3a, q3b, q3c⟩ := isOf hZ e2 E_a1
  obtain ⟨rv3, _, ⟨T3, L3, k3, n3⟩, -, X3, ⟨Lc3, hQ3, l3, y3, z3⟩, st3⟩ := X2.virtualBack hx (y := (⟨"java/lang/AbstractStringBuilder", "ensureCapacityInternal", "(I)V"⟩ : MethodName)) (z := (⟨"java/lang/AbstractStringBuilder", "ensureCapacityInternal", "(I)V"⟩ : MethodName)) hown (mvT hZ (wq hw 60 rfl)) (mvT hZ (own_declares (wq hw 61 rfl) (wq hw 64 rfl))) (notFace_of_selects (args := #[]) (mvT hZ (wq hw 63 rfl))) (mvT hZ (wq hw 63 rfl)) (mvT hZ (wq hw 61 rfl)) (by decide) (backOf (W := 0) (ensCapG l Z a0 hw [] a1 (Int32.ofNat (cs.length + szN p2)) t k cs (Int32.ofNat cs.length) h0 n0 Z0 E_a1 g_a1 Fn_a1 Fv_a1 Fc_a1 V_t (own_sub16 hr hr4).1 (own_sub16 hr hr4).2 hl_a1) hZ (wq hw 64 rfl) (wq hw 17 rfl) (by decide) (by decide)) q3a q3c (g := (mkF m 14 #[.val (.ref a1), .val (.int p2), .val (.int (Int32.ofNat cs.length)), .val (.int (Int32.ofNat (cs.length + szN p2)))] [(.int (Int32.ofNat (cs.length + szN p2))), (.ref a1)])) rfl (by rw [hml]; rfl) (Steps.refl _) (argsL := [(.int (Int32.ofNat (cs.length + szN p2)))]) (rest := []) (lenOf pd_3 rfl) rfl (by show 2 * 0 + _ ≤ _; exact Nat.le_of_eq rfl) (hb hby d14_14) (fun _ _ => ⟨rfl, e2, (by decide : 0 + 1 ≤ _), (by decide : 0 + 34 ≤ _)⟩)
  dsimp only [Pt.U, Pt.locs, Pt.cells, Pt.slots] at X3 l3 y3 z3 st3 hQ3
  have X3 := own_reb X3 l3 y3 z3
  obtain ⟨tt_3, kk_3, rfl, N3q, K3, nz_tt_3, Fv_3, Fc_3, Fn_3, V_3⟩ := hQ3
  have N3 := Fr.app N2 N3q
  have ne_a1_tt_3 : a1 ≠ tt_3 := Nat.ne_of_lt (Nat.lt_of_lt_of_le E_a1.lt nz_tt_3)
  have g_tt_3 : n0 ≤ tt_3 := Nat.le_trans Z0 nz_tt_3
  have sz_tt_3 : h0.size ≤ tt_3 := Nat.le_trans K0.1 nz_tt_3
  have Z0 := Nat.le_trans Z0 K3.1
  have Od := Od.keep K3 (allS g_a1 all0)
  have K0 := K0.trans K3 (allS (Or.inl (List.mem_of_getElem? (i := 0) rfl)) all0)
  have E_a1 := E_a1.keep K3
  refine Gl.pre (B := T3.setTop (mkF m 18 #[.val (.ref a1), .val (.int p2), .val (.int (Int32.ofNat cs.length)), .val (.int (Int32.ofNat (cs.length + szN p2)))] [(.ref a1)])) (fun _ k => st3.trans (XS.aloadN X3.here hx rfl (hb hby d14_17) rfl rfl k)) ?_
  obtain ⟨cq4, kq4, q4a, q4b, q4c⟩ := isOf hZ rfl E_a1
  obtain ⟨rv4, _, ⟨T4, L4, k4, n4⟩, -, X4, ⟨Lc4, hQ4, l4, y4, z4⟩, st4⟩ := X3.virtualBack hx (y := (⟨"java/lang/AbstractStringBuilder", "isLatin1", "()Z"⟩ : MethodName)) (z := (⟨"java/lang/AbstractStringBuilder", "isLatin1", "()Z"⟩ : MethodName)) hown (mvT hZ (wq hw 98 rfl)) (mvT hZ (wq hw 99 rfl)) (notFace_of_selects (args := #[]) (mvT hZ (wq hw 101 rfl))) (mvT hZ (wq hw 101 rfl)) (mvT hZ (wq hw 100 rfl)) (by decide) (backOf (W := 0) (asbLat l Z a0 hw [] a1 G1 T3.heap n0 Z0 Fc_3 O2 P5 Od) hZ (wq hw 102 rfl) (wq hw 17 rfl) (by decide) (by decide)) q4a q4c (g := (mkF m 18 #[.val (.ref a1), .val (.int p2), .val (.int (Int32.ofNat cs.length)), .val (.int (Int32.ofNat (cs.length + szN p2)))] [(.ref a1)])) rfl (by rw [hml]; rfl) (Steps.refl _) (argsL := []) (rest := []) (lenOf pd_12 rfl) rfl (by show 2 * 0 + _ ≤ _; exact Nat.le_of_eq rfl) (hb hby d14_18) (fun _ _ => ⟨rfl, rfl, (by decide : 1 + 0 ≤ _), (by decide : 34 + 0 ≤ _)⟩)
  dsimp only [Pt.U, Pt.locs, Pt.cells, Pt.slots] at X4 l4 y4 z4 st4 hQ4
  have X4 := own_reb X4 l4 y4 z4
  obtain ⟨rfl, N4q, e4⟩ := hQ4
  have N4 := Fr.app N3 N4q
  refine Gl.pre (B := T4.setTop (mkF m 27 #[.val (.ref a1), .val (.int p2), .val (.int (Int32.ofNat cs.length)), .val (.int (Int32.ofNat (cs.length + szN p2)))] [(.ref a1), (.int (Int32.ofNat (cs.length + szN p2))), (.int p2)])) (fun _ k => st4.trans (XS.ifNo X4.here hx rfl (hb hby d14_21) rfl ((if0 _ _).trans (feq (by decide : ¬ ((1 : Int32) = (0 : Int32)))).1) (XS.iloadN X4.here hx rfl (hb hby d14_24) rfl (XS.iloadN X4.here hx rfl (hb hby d14_25) rfl (XS.aloadN X4.here hx rfl (hb hby d14_26) rfl rfl k))))) ?_
  obtain ⟨T5, X5, e5, st5⟩ := getF X4 hx hZ hown (host := "") (Or.inl (wq hw 25 rfl)) Via.refl e4 Fv_3 (g := (mkF m 27 #[.val (.ref a1), .val (.int p2), .val (.int (Int32.ofNat cs.length)), .val (.int (Int32.ofNat (cs.length + szN p2)))] [(.ref a1), (.int (Int32.ofNat (cs.length + szN p2))), (.int p2)])) rfl rfl (hb hby d14_27)
  refine Gl.pre (B := T5.setTop (mkF m 30 #[.val (.ref a1), .val (.int p2), .val (.int (Int32.ofNat cs.length)), .val (.int (Int32.ofNat (cs.length + szN p2)))] [(.ref tt_3), (.int (Int32.ofNat (cs.length + szN p2))), (.int p2)])) (fun _ k => st5 _ k) ?_
  obtain ⟨cA, ArA, kA, SzA, NnA, HsA, GfA⟩ := id V_3
  obtain ⟨rv6, _, ⟨T6, L6, k6, n6⟩, -, X6, ⟨Lc6, hQ6, l6, y6, z6⟩, st6⟩ := Jvm.LawKit.callS X5 hx (y := (⟨"java/lang/Integer", "getChars", "(II[B)I"⟩ : MethodName)) hown (mvT hZ (wq hw 103 rfl)) (mvT hZ (wq hw 104 rfl)) (mvT hZ (wq hw 96 rfl)) (mvT hZ (wq hw 105 rfl)) (by decide) (own_gc (W := 0) (n0 := n0) ⟨p2, absN p2, cs.length + szN p2, tt_3, cA, sT, dA, DA, dB, DB⟩ hZ (gc_tab hw) (ic_ini hw) (own_gcP (cap := 34) Od ArA SzA (by decide) hr4 g_tt_3 tbA tbB) ArA.1 (own_by HsA) (abs_le p2) (Nat.le_add_left _ _) g_tt_3 (by decide) (by decide)) (g := (mkF m 30 #[.val (.ref a1), .val (.int p2), .val (.int (Int32.ofNat cs.length)), .val (.int (Int32.ofNat (cs.length + szN p2)))] [(.ref tt_3), (.int (Int32.ofNat (cs.length + szN p2))), (.int p2)])) rfl (by rw [hml]; rfl) (argsL := [(.int p2), (.int (Int32.ofNat (cs.length + szN p2))), (.ref tt_3)]) (rest := []) (lenOf pd_18 rfl) rfl (by show 2 * 0 + _ ≤ _; exact Nat.le_of_eq rfl) (hb hby d14_30) (fun _ _ => ⟨rfl, e5, (by decide : 1 + 0 ≤ _), (by decide : 34 + 0 ≤ _)⟩)
  dsimp only [Pt.U, Pt.locs, Pt.cells, Pt.slots] at X6 l6 y6 z6 st6 hQ6
  have X6 := own_reb X6 l6 y6 z6
  obtain ⟨rfl, N6q, K6, ht6⟩ := hQ6
  have N6 := Fr.app N4 N6q
  have K0 := K0.trans K6 (allS (Or.inr sz_tt_3) all0)
  have E_a1 := E_a1.keep K6
  have Fv_3 := Fv_3.keep K6 (ninS ne_a1_tt_3 nin0)
  have Fc_3 := Fc_3.keep K6 (ninS ne_a1_tt_3 nin0)
  have Fn_3 := Fn_3.keep K6 (ninS ne_a1_tt_3 nin0)
  have V_3g := own_gc_arv (cap := 34) ArA kA SzA HsA (by decide) hr4 onA onB ht6
  refine Gl.pre (B := T6.setTop (mkF m 50 #[.val (.ref a1), .val (.int p2), .val (.int (Int32.ofNat cs.length)), .val (.int (Int32.ofNat (cs.length + szN p2)))] [(.int (Int32.ofNat (cs.length + szN p2))), (.ref a1)])) (fun _ k => st6 _ (XS.pop X6.here hx rfl (hb hby d14_33) rfl rfl (XS.goto X6.here hx rfl (pc0 := 34) (pc' := 48) rfl (hb hby d14_34) (by decide) (by decide) (XS.aloadN X6.here hx rfl (hb hby d14_48) rfl rfl (XS.iloadN X6.here hx rfl (hb hby d14_49) rfl k))))) ?_
  obtain ⟨T7, h7, X7, e7, W7, st7⟩ := putF X6 hx hZ hown (host := "") (Or.inl (wq hw 58 rfl)) Via.refl rfl Fn_3 E_a1 (Or.inl (wq hw 59 rfl)) (wq hw 8 rfl) (ty := .int) (by decide) rfl rfl (g := (mkF m 50 #[.val (.ref a1), .val (.int p2), .val (.int (Int32.ofNat cs.length)), .val (.int (Int32.ofNat (cs.length + szN p2)))] [(.int (Int32.ofNat (cs.length + szN p2))), (.ref a1)])) rfl rfl (hb hby d14_50)
  have N7 := Fr.snoc X7 N6 g_a1
  have Fn_3_n := Fn_3.same W7
  have K0 := K0.wr W7 (Or.inl (List.mem_of_getElem? (i := 0) rfl))
  have E_a1 := E_a1.wr W7
  have Fv_3 := Fv_3.other W7 (Or.inr (slot_ne (Or.inl (wq hw 26 rfl)) (Or.inl (wq hw 59 rfl)) (by decide) (t := (.array .byte)) (t' := .int) (by decide) (by decide)))
  have Fc_3 := Fc_3.other W7 (Or.inr (slot_ne (Or.inl (wq hw 28 rfl)) (Or.inl (wq hw 59 rfl)) (by decide) (t := .byte) (t' := .int) (by decide) (by decide)))
  have V_3g := V_3g.other W7 (Ne.symm ne_a1_tt_3)
  have Fn_3 := Fn_3_n
  refine Gl.pre (B := T7.setTop (mkF m 54 #[.val (.ref a1), .val (.int p2), .val (.int (Int32.ofNat cs.length)), .val (.int (Int32.ofNat (cs.length + szN p2)))] [(.ref a1)])) (fun _ k => st7 _ (XS.aloadN X7.here hx rfl (hb hby d14_53) rfl rfl k)) ?_
  refine Gl.out X7 (v := some (.ref a1)) (fun h => by rw [hret] at h; cases h) hlk (fun fs hr => retOut X7 hx hret rfl (Or.inr (Or.inr (Or.inr (Or.inr ⟨rfl, rfl, rfl⟩)))) (hb hby d14_54) hr) ?_ (by decide) (by decide)
  show Q_asbAppJ Z _ _ _ _ _ _ _ _ _ _ _ h0 n0 _ T7.heap _
  rw [e7]
  exact ⟨tt_3, kk_3, rfl, N7, K0, sz_tt_3, E_a1, Fv_3, Fc_3, by rw [List.length_append, decL_len]; exact Fn_3, V_3g, by rw [List.length_append, decL_len]; exact hr4, Nat.le_of_ble_eq_true rfl, own_all_app hb_a1 (decL_rng p2)⟩
theorem ef_sbAppJ (m : MethodId) (x0 : Addr) (x1 : Int32) : entryFrame m #[(.ref x0), (.int x1)] 2 = mkF m 0 #[.val (.ref x0), .val (.int x1)] [] := by first | (simp [entryFrame, mkF, argsToLocals, Value.category]; done) | rfl
def Q_sbAppJ (Z : State) (a1 : Addr) (p2 : Int32) (t : Addr) (k : ClassId) (cs : List Int32) (G1 : Int32) (sT : Addr) (dA : Addr) (dB : Addr) (DA : Cell) (DB : Cell) (h0 : Heap) (n0 : Nat) (v : Option Value) (h : Heap) (L : List Loc) : Prop := ∃ tt : Addr, ∃ kk : ClassId, v = some (.ref a1) ∧ Fr n0 L ∧ (Keep h0 h [a1]) ∧ (h0.size ≤ tt) ∧ (SBs Z h a1 tt kk 34 (cs ++ decL p2))
set_option maxRecDepth 65536 in
set_option maxHeartbeats 40000000 in
theorem sbAppJ (l : Launch) (Z : State) (a0 : Array Value) (hw : ∀ d ∈ tables_1, d.before a0 Z = true) (ws : List Jvm.Cond) (a1 : Addr) (p2 : Int32) (t : Addr) (k : ClassId) (cs : List Int32) (G1 : Int32) (sT : Addr) (dA : Addr) (dB : Addr) (DA : Cell) (DB : Cell) (h0 : Heap) (n0 : Nat) (Z0 : n0 ≤ h0.size) (sb : SBs Z h0 a1 t k 16 cs) (g_a1 : n0 ≤ a1) (hr : 16 < cs.length + szN p2) (hr4 : cs.length + szN p2 ≤ 34) (O2 : Sta Z Z.heap "java/lang/String" "COMPACT_STRINGS" "Z" (.int G1)) (P5 : ¬ (G1 = (0 : Int32))) (Od : Old Z n0 h0) (tbA : SBG.Tbl Z "DigitOnes" sT dA DA) (onA : SBG.Ones DA) (tbB : SBG.Tbl Z "DigitTens" sT dB DB) (onB : SBG.Tens DB) :
    MetFree l (⟨"java/lang/StringBuilder", "append", "(I)Ljava/lang/StringBuilder;"⟩ : MethodName) (head1 (Jvm.Cond.code (⟨"java/lang/StringBuilder", "append", "(I)Ljava/lang/StringBuilder;"⟩ : MethodName) jdk_67_method_15_code 2 (some (.object "java/lang/StringBuilder")) :: ws) ({ frames := 5, cells := 1, slots := 34, locals := 93 } : Room)) (fun a U => a = #[(.ref a1), (.int p2)] ∧ Z.Warmed39 U.vm ∧ U.heap = h0) (fun _ _ _ _ _ => True) (fun _ U o U' => ∃ v L, o = .returned v ∧ Q_sbAppJ Z a1 p2 t k cs G1 sT dA dB DA DB h0 n0 v U'.heap L ∧ FrameEnd U o U' L ({ frames := 5, cells := 1, slots := 34, locals := 93 } : Room).cells ({ frames := 5, cells := 1, slots := 34, locals := 93 } : Room).slots) := by
  refine MetFree.of_bodySF (plainFor_of_name pn_java_lang_StringBuilder) hisR ?_
  intro p e s m args below meth c s₁ Bd hml0 hP hK
  obtain ⟨rfl, hZ, hh⟩ := hP
  have hx := Bd.exec
  have hby := Bd.bytes
  have hml : c.maxLocals = 2 := hml0
  have hown : s.vm.findClass "java/lang/StringBuilder" = some m.cls := findClass_of_methodNamed Bd.named
  have hnm := (name_of_methodNamed Bd.named Bd.method).1
  have hret : meth.sig.returnType = (some (.object "java/lang/StringBuilder")) := Bd.returns
  have hlk : meth.locks = false := BodyLoose.notSynchronized Bd
  have X0 : Stand p l e ({ frames := 5, cells := 1, slots := 34, locals := 93 } : Room) s m #[(.ref a1), (.int p2)] below meth c s₁ [] 0 0 := Stand.of_body Bd
  have e0 : s₁.heap = h0 := by rw [← hh, Bd.state]; rfl
  have N0 := Fr.nil n0
  have K0 : Keep h0 h0 [a1] := Keep.refl h0 _
  show Gl p.tables e below s (Q_sbAppJ Z a1 p2 t k cs G1 sT dA dB DA DB h0 n0) 1 34 _
  refine Gl.pre (B := s₁.setTop (mkF m 0 #[.val (.ref a1), .val (.int p2)] [])) (fun _ k => castTop (ef_sbAppJ m a1 p2) k) ?_
  have E_a1 := sb.1
  refine Gl.pre (B := s₁.setTop (mkF m 2 #[.val (.ref a1), .val (.int p2)] [(.int p2), (.ref a1)])) (fun _ k => XS.aloadN X0.here hx rfl (hb hby d13_0) rfl rfl (XS.iloadN X0.here hx rfl (hb hby d13_1) rfl k)) ?_
  obtain ⟨rv1, _, ⟨T1, L1, k1, n1⟩, -, X1, ⟨Lc1, hQ1, l1, y1, z1⟩, st1⟩ := superBack X0 hx hZ (y := (⟨"java/lang/AbstractStringBuilder", "append", "(I)Ljava/lang/AbstractStringBuilder;"⟩ : MethodName)) hown (wq hw 90 rfl) (own_same (y := (⟨"java/lang/AbstractStringBuilder", "append", "(I)Ljava/lang/AbstractStringBuilder;"⟩ : MethodName)) (wq hw 91 rfl) (wq hw 63 rfl) rfl (by decide)) (wq hw 91 rfl) (wq hw 42 rfl) (by decide) (backOf (W := 0) (asbAppJ l Z a0 hw [] a1 p2 t k cs G1 sT dA dB DA DB h0 n0 Z0 sb g_a1 hr hr4 O2 P5 Od tbA onA tbB onB) hZ (wq hw 93 rfl) (wq hw 17 rfl) (by decide) (by decide)) e0 (Ins.self E_a1) (g := (mkF m 2 #[.val (.ref a1), .val (.int p2)] [(.int p2), (.ref a1)])) rfl (by rw [hml]; rfl) (wq hw 93 rfl) (argsL := [(.int p2)]) (rest := []) (lenOf pd_19 rfl) rfl (by show 2 * 0 + _ ≤ _; exact Nat.le_of_eq rfl) (hb hby d13_2) (fun _ _ => ⟨rfl, e0, (by decide : 0 + 1 ≤ _), (by decide : 0 + 34 ≤ _)⟩)
  dsimp only [Pt.U, Pt.locs, Pt.cells, Pt.slots] at X1 l1 y1 z1 st1 hQ1
  have X1 := own_reb X1 l1 y1 z1
  obtain ⟨tt_1, kk_1, rfl, N1q, K1, nz_tt_1, sb_1⟩ := hQ1
  have N1 := Fr.app N0 N1q
  have sz_tt_1 : h0.size ≤ tt_1 := Nat.le_trans K0.1 nz_tt_1
  have K0 := K0.trans K1 (allS (Or.inl (List.mem_of_getElem? (i := 0) rfl)) all0)
  refine Gl.pre (B := T1.setTop (mkF m 7 #[.val (.ref a1), .val (.int p2)] [(.ref a1)])) (fun _ k => st1.trans (XS.pop X1.here hx rfl (hb hby d13_5) rfl rfl (XS.aloadN X1.here hx rfl (hb hby d13_6) rfl rfl k))) ?_
  refine Gl.out X1 (v := some (.ref a1)) (fun h => by rw [hret] at h; cases h) hlk (fun fs hr => retOut X1 hx hret rfl (Or.inr (Or.inr (Or.inr (Or.inr ⟨rfl, rfl, rfl⟩)))) (hb hby d13_7) hr) ?_ (by decide) (by decide)
  show Q_sbAppJ Z _ _ _ _ _ _ _ _ _ _ _ h0 n0 _ T1.heap _
  exact ⟨tt_1, kk_1, rfl, N1, K0, sz_tt_1, sb_1⟩
theorem ef_asbAppG (m : MethodId) (x0 : Addr) (x1 : Addr) : entryFrame m #[(.ref x0), (.ref x1)] 3 = mkF m 0 #[.val (.ref x0), .val (.ref x1), .unset] [] := by first | (simp [entryFrame, mkF, argsToLocals, Value.category]; done) | rfl
def Q_asbAppG (Z : State) (a1 : Addr) (a2 : Addr) (t : Addr) (k : ClassId) (cs : List Int32) (t2 : Addr) (k2 : ClassId) (ds : List Int32) (G1 : Int32) (h0 : Heap) (n0 : Nat) (v : Option Value) (h : Heap) (L : List Loc) : Prop := ∃ tt : Addr, ∃ kk : ClassId, v = some (.ref a1) ∧ Fr n0 L ∧ (Keep h0 h [a1]) ∧ (h0.size ≤ tt) ∧ (SBs Z h a1 tt kk 34 (cs ++ ds))
set_option maxRecDepth 65536 in
set_option maxHeartbeats 40000000 in
theorem asbAppG (l : Launch) (Z : State) (a0 : Array Value) (hw : ∀ d ∈ tables_1, d.before a0 Z = true) (ws : List Jvm.Cond) (a1 : Addr) (a2 : Addr) (t : Addr) (k : ClassId) (cs : List Int32) (t2 : Addr) (k2 : ClassId) (ds : List Int32) (G1 : Int32) (h0 : Heap) (n0 : Nat) (Z0 : n0 ≤ h0.size) (sb : SBs Z h0 a1 t k 16 cs) (sv : StrV Z h0 a2 t2 k2 ds) (g_a1 : n0 ≤ a1) (hr : 16 < cs.length + ds.length) (hr4 : cs.length + ds.length ≤ 34) (h2a : a2 ≠ a1) (ht2 : t2 ≠ a1) (O2 : Sta Z Z.heap "java/lang/String" "COMPACT_STRINGS" "Z" (.int G1)) (P5 : ¬ (G1 = (0 : Int32))) (Od : Old Z n0 h0) :
    MetFree l (⟨"java/lang/AbstractStringBuilder", "append", "(Ljava/lang/String;)Ljava/lang/AbstractStringBuilder;"⟩ : MethodName) (head1 (Jvm.Cond.code (⟨"java/lang/AbstractStringBuilder", "append", "(Ljava/lang/String;)Ljava/lang/AbstractStringBuilder;"⟩ : MethodName) jdk_68_method_22_code 3 (some (.object "java/lang/AbstractStringBuilder")) :: ws) ({ frames := 4, cells := 1, slots := 34, locals := 69 } : Room)) (fun a U => a = #[(.ref a1), (.ref a2)] ∧ Z.Warmed39 U.vm ∧ U.heap = h0) (fun _ _ _ _ _ => True) (fun _ U o U' => ∃ v L, o = .returned v ∧ Q_asbAppG Z a1 a2 t k cs t2 k2 ds G1 h0 n0 v U'.heap L ∧ FrameEnd U o U' L ({ frames := 4, cells := 1, slots := 34, locals := 69 } : Room).cells ({ frames := 4, cells := 1, slots := 34, locals := 69 } : Room).slots) := by
  refine MetFree.of_bodySF (plainFor_of_name pn_java_lang_AbstractStringBuilder) hisR ?_
  intro p e s m args below meth c s₁ Bd hml0 hP hK
  obtain ⟨rfl, hZ, hh⟩ := hP
  have hx := Bd.exec
  have hby := Bd.bytes
  have hml : c.maxLocals = 3 := hml0
  have hown : s.vm.findClass "java/lang/AbstractStringBuilder" = some m.cls := findClass_of_methodNamed Bd.named
  have hnm := (name_of_methodNamed Bd.named Bd.method).1
  have hret : meth.sig.returnType = (some (.object "java/lang/AbstractStringBuilder")) := Bd.returns
  have hlk : meth.locks = false := BodyLoose.notSynchronized Bd
  have X0 : Stand p l e ({ frames := 4, cells := 1, slots := 34, locals := 69 } : Room) s m #[(.ref a1), (.ref a2)] below meth c s₁ [] 0 0 := Stand.of_body Bd
  have e0 : s₁.heap = h0 := by rw [← hh, Bd.state]; rfl
  have N0 := Fr.nil n0
  have K0 : Keep h0 h0 [a1] := Keep.refl h0 _
  show Gl p.tables e below s (Q_asbAppG Z a1 a2 t k cs t2 k2 ds G1 h0 n0) 1 34 _
  refine Gl.pre (B := s₁.setTop (mkF m 0 #[.val (.ref a1), .val (.ref a2), .unset] [])) (fun _ k => castTop (ef_asbAppG m a1 a2) k) ?_
  obtain ⟨E_a1, Fv_a1, Fc_a1, Fn_a1, V_t, hl_a1, hc_a1, hb_a1⟩ := id sb
  obtain ⟨E_a2, Fv_a2, Fc_a2, V_a2, hb_a2, hl_a2⟩ := id sv
  refine Gl.pre (B := s₁.setTop (mkF m 10 #[.val (.ref a1), .val (.ref a2), .unset] [(.ref a2)])) (fun _ k => XS.aloadN X0.here hx rfl (hb hby d6_0) rfl rfl (XS.ifnonnullYes X0.here hx rfl (pc0 := 1) (pc' := 9) rfl (hb hby d6_1) rfl (by decide) (by decide) (XS.aloadN X0.here hx rfl (hb hby d6_9) rfl rfl k))) ?_
  obtain ⟨cq1, kq1, q1a, q1b, q1c⟩ := isOf hZ e0 E_a2
  obtain ⟨rv1, _, ⟨T1, L1, k1, n1⟩, -, X1, ⟨Lc1, hQ1, l1, y1, z1⟩, st1⟩ := X0.virtualBack hx (y := (⟨"java/lang/String", "length", "()I"⟩ : MethodName)) (z := (⟨"java/lang/String", "length", "()I"⟩ : MethodName)) hown (mvT hZ (wq hw 45 rfl)) (mvT hZ (wq hw 46 rfl)) (notFace_of_selects (args := #[]) (mvT hZ (wq hw 48 rfl))) (mvT hZ (wq hw 48 rfl)) (mvT hZ (wq hw 47 rfl)) (by decide) (backOf (W := 0) (strLen l Z a0 hw [] a2 t2 k2 ds G1 h0 n0 Z0 sv O2 P5 Od) hZ (wq hw 49 rfl) (wq hw 23 rfl) (by decide) (by decide)) q1a q1c (g := (mkF m 10 #[.val (.ref a1), .val (.ref a2), .unset] [(.ref a2)])) rfl (by rw [hml]; rfl) (Steps.refl _) (argsL := []) (rest := []) (lenOf pd_5 rfl) rfl (by show 2 * 0 + _ ≤ _; exact Nat.le_of_eq rfl) (hb hby d6_10) (fun _ _ => ⟨rfl, e0, (by decide : 0 + 0 ≤ _), (by decide : 0 + 0 ≤ _)⟩)
  dsimp only [Pt.U, Pt.locs, Pt.cells, Pt.slots] at X1 l1 y1 z1 st1 hQ1
  have X1 := own_reb X1 l1 y1 z1
  obtain ⟨rfl, N1q, e1⟩ := hQ1
  have N1 := Fr.app N0 N1q
  refine Gl.pre (B := T1.setTop (mkF m 16 #[.val (.ref a1), .val (.ref a2), .val (.int (Int32.ofNat ds.length))] [(.ref a1), (.ref a1)])) (fun _ k => st1.trans (XS.istoreN X1.here hx rfl (hb hby d6_13) rfl (l' := #[.val (.ref a1), .val (.ref a2), .val (.int (Int32.ofNat ds.length))]) rfl (XS.aloadN X1.here hx rfl (hb hby d6_14) rfl rfl (XS.aloadN X1.here hx rfl (hb hby d6_15) rfl rfl k)))) ?_
  obtain ⟨T2, X2, e2, st2⟩ := getF X1 hx hZ hown (host := "") (Or.inl (wq hw 58 rfl)) Via.refl e1 Fn_a1 (g := (mkF m 16 #[.val (.ref a1), .val (.ref a2), .val (.int (Int32.ofNat ds.length))] [(.ref a1), (.ref a1)])) rfl rfl (hb hby d6_16)
  refine Gl.pre (B := T2.setTop (mkF m 21 #[.val (.ref a1), .val (.ref a2), .val (.int (Int32.ofNat ds.length))] [(.int ((Int32.ofNat cs.length) + (Int32.ofNat ds.length))), (.ref a1)])) (fun _ k => st2 _ (XS.iloadN X2.here hx rfl (hb hby d6_19) rfl (XS.iadd X2.here hx rfl (hb hby d6_20) rfl k))) ?_
  rw [own_add32]
  obtain ⟨cq3, kq3, q3a, q3b, q3c⟩ := isOf hZ e2 E_a1
  obtain ⟨rv3, _, ⟨T3, L3, k3, n3⟩, -, X3, ⟨Lc3, hQ3, l3, y3, z3⟩, st3⟩ := X2.virtualBack hx (y := (⟨"java/lang/AbstractStringBuilder", "ensureCapacityInternal", "(I)V"⟩ : MethodName)) (z := (⟨"java/lang/AbstractStringBuilder", "ensureCapacityInternal", "(I)V"⟩ : MethodName)) hown (mvT hZ (wq hw 60 rfl)) (mvT hZ (own_declares (wq hw 61 rfl) (wq hw 64 rfl))) (notFace_of_selects (args := #[]) (mvT hZ (wq hw 63 rfl))) (mvT hZ (wq hw 63 rfl)) (mvT hZ (wq hw 61 rfl)) (by decide) (backOf (W := 0) (ensCapG l Z a0 hw [] a1 (Int32.ofNat (cs.length + ds.length)) t k cs (Int32.ofNat cs.length) h0 n0 Z0 E_a1 g_a1 Fn_a1 Fv_a1 Fc_a1 V_t (own_sub16 hr hr4).1 (own_sub16 hr hr4).2 hl_a1) hZ (wq hw 64 rfl) (wq hw 17 rfl) (by decide) (by decide)) q3a q3c (g := (mkF m 21 #[.val (.ref a1), .val (.ref a2), .val (.int (Int32.ofNat ds.length))] [(.int (Int32.ofNat (cs.length + ds.length))), (.ref a1)])) rfl (by rw [hml]; rfl) (Steps.refl _) (argsL := [(.int (Int32.ofNat (cs.length + ds.length)))]) (rest := []) (lenOf pd_3 rfl) rfl (by show 2 * 0 + _ ≤ _; exact Nat.le_of_eq rfl) (hb hby d6_21) (fun _ _ => ⟨rfl, e2, (by decide : 0 + 1 ≤ _), (by decide : 0 + 34 ≤ _)⟩)
  dsimp only [Pt.U, Pt.locs, Pt.cells, Pt.slots] at X3 l3 y3 z3 st3 hQ3
  have X3 := own_reb X3 l3 y3 z3
  obtain ⟨tt_3, kk_3, rfl, N3q, K3, nz_tt_3, Fv_3, Fc_3, Fn_3, V_3⟩ := hQ3
  have N3 := Fr.app N1 N3q
  have ne_a1_tt_3 : a1 ≠ tt_3 := Nat.ne_of_lt (Nat.lt_of_lt_of_le E_a1.lt nz_tt_3)
  have g_tt_3 : n0 ≤ tt_3 := Nat.le_trans Z0 nz_tt_3
  have sz_tt_3 : h0.size ≤ tt_3 := Nat.le_trans K0.1 nz_tt_3
  have Z0 := Nat.le_trans Z0 K3.1
  have Od := Od.keep K3 (allS g_a1 all0)
  have K0 := K0.trans K3 (allS (Or.inl (List.mem_of_getElem? (i := 0) rfl)) all0)
  have E_a1 := E_a1.keep K3
  have svG := StrV.keep sv K3 (ninS h2a nin0) (ninS ht2 nin0)
  refine Gl.pre (B := T3.setTop (mkF m 26 #[.val (.ref a1), .val (.ref a2), .val (.int (Int32.ofNat ds.length))] [(.ref a1), (.ref a1)])) (fun _ k => st3.trans (XS.aloadN X3.here hx rfl (hb hby d6_24) rfl rfl (XS.aloadN X3.here hx rfl (hb hby d6_25) rfl rfl k))) ?_
  obtain ⟨T4, X4, e4, st4⟩ := getF X3 hx hZ hown (host := "") (Or.inl (wq hw 58 rfl)) Via.refl rfl Fn_3 (g := (mkF m 26 #[.val (.ref a1), .val (.ref a2), .val (.int (Int32.ofNat ds.length))] [(.ref a1), (.ref a1)])) rfl rfl (hb hby d6_26)
  refine Gl.pre (B := T4.setTop (mkF m 30 #[.val (.ref a1), .val (.ref a2), .val (.int (Int32.ofNat ds.length))] [(.ref a2), (.int (Int32.ofNat cs.length)), (.ref a1)])) (fun _ k => st4 _ (XS.aloadN X4.here hx rfl (hb hby d6_29) rfl rfl k)) ?_
  obtain ⟨cq5, kq5, q5a, q5b, q5c⟩ := isOf hZ e4 E_a1
  obtain ⟨rv5, _, ⟨T5, L5, k5, n5⟩, -, X5, ⟨Lc5, hQ5, l5, y5, z5⟩, st5⟩ := X4.virtualBack hx (y := (⟨"java/lang/AbstractStringBuilder", "putStringAt", "(ILjava/lang/String;)V"⟩ : MethodName)) (z := (⟨"java/lang/AbstractStringBuilder", "putStringAt", "(ILjava/lang/String;)V"⟩ : MethodName)) hown (mvT hZ (wq hw 65 rfl)) (mvT hZ (own_declares (wq hw 66 rfl) (wq hw 69 rfl))) (notFace_of_selects (args := #[]) (mvT hZ (wq hw 68 rfl))) (mvT hZ (wq hw 68 rfl)) (mvT hZ (wq hw 66 rfl)) (by decide) (backOf (W := 0) (putAt l Z a0 hw [] a1 (Int32.ofNat cs.length) a2 tt_3 kk_3 34 cs t2 k2 ds G1 T3.heap n0 Z0 E_a1 Fv_3 Fc_3 svG V_3 g_tt_3 hr4 (Nat.le_of_ble_eq_true rfl) rfl O2 P5 Od) hZ (wq hw 69 rfl) (wq hw 17 rfl) (by decide) (by decide)) q5a q5c (g := (mkF m 30 #[.val (.ref a1), .val (.ref a2), .val (.int (Int32.ofNat ds.length))] [(.ref a2), (.int (Int32.ofNat cs.length)), (.ref a1)])) rfl (by rw [hml]; rfl) (Steps.refl _) (argsL := [(.int (Int32.ofNat cs.length)), (.ref a2)]) (rest := []) (lenOf pd_6 rfl) rfl (by show 2 * 0 + _ ≤ _; exact Nat.le_of_eq rfl) (hb hby d6_30) (fun _ _ => ⟨rfl, e4, (by decide : 1 + 0 ≤ _), (by decide : 34 + 0 ≤ _)⟩)
  dsimp only [Pt.U, Pt.locs, Pt.cells, Pt.slots] at X5 l5 y5 z5 st5 hQ5
  have X5 := own_reb X5 l5 y5 z5
  obtain ⟨rfl, N5q, K5, V_t_5⟩ := hQ5
  have N5 := Fr.app N3 N5q
  have K0 := K0.trans K5 (allS (Or.inr sz_tt_3) all0)
  have E_a1 := E_a1.keep K5
  have Fv_3 := Fv_3.keep K5 (ninS ne_a1_tt_3 nin0)
  have Fc_3 := Fc_3.keep K5 (ninS ne_a1_tt_3 nin0)
  have Fn_3 := Fn_3.keep K5 (ninS ne_a1_tt_3 nin0)
  refine Gl.pre (B := T5.setTop (mkF m 35 #[.val (.ref a1), .val (.ref a2), .val (.int (Int32.ofNat ds.length))] [(.ref a1), (.ref a1)])) (fun _ k => st5.trans (XS.aloadN X5.here hx rfl (hb hby d6_33) rfl rfl (XS.dup X5.here hx rfl (hb hby d6_34) rfl rfl k))) ?_
  obtain ⟨T6, X6, e6, st6⟩ := getF X5 hx hZ hown (host := "") (Or.inl (wq hw 58 rfl)) Via.refl rfl Fn_3 (g := (mkF m 35 #[.val (.ref a1), .val (.ref a2), .val (.int (Int32.ofNat ds.length))] [(.ref a1), (.ref a1)])) rfl rfl (hb hby d6_35)
  refine Gl.pre (B := T6.setTop (mkF m 40 #[.val (.ref a1), .val (.ref a2), .val (.int (Int32.ofNat ds.length))] [(.int ((Int32.ofNat cs.length) + (Int32.ofNat ds.length))), (.ref a1)])) (fun _ k => st6 _ (XS.iloadN X6.here hx rfl (hb hby d6_38) rfl (XS.iadd X6.here hx rfl (hb hby d6_39) rfl k))) ?_
  obtain ⟨T7, h7, X7, e7, W7, st7⟩ := putF X6 hx hZ hown (host := "") (Or.inl (wq hw 58 rfl)) Via.refl e6 Fn_3 E_a1 (Or.inl (wq hw 59 rfl)) (wq hw 8 rfl) (ty := .int) (by decide) rfl rfl (g := (mkF m 40 #[.val (.ref a1), .val (.ref a2), .val (.int (Int32.ofNat ds.length))] [(.int ((Int32.ofNat cs.length) + (Int32.ofNat ds.length))), (.ref a1)])) rfl rfl (hb hby d6_40)
  have N7 := Fr.snoc X7 N5 g_a1
  have Fn_3_n := Fn_3.same W7
  have K0 := K0.wr W7 (Or.inl (List.mem_of_getElem? (i := 0) rfl))
  have E_a1 := E_a1.wr W7
  have Fv_3 := Fv_3.other W7 (Or.inr (slot_ne (Or.inl (wq hw 26 rfl)) (Or.inl (wq hw 59 rfl)) (by decide) (t := (.array .byte)) (t' := .int) (by decide) (by decide)))
  have Fc_3 := Fc_3.other W7 (Or.inr (slot_ne (Or.inl (wq hw 28 rfl)) (Or.inl (wq hw 59 rfl)) (by decide) (t := .byte) (t' := .int) (by decide) (by decide)))
  have V_t_5 := V_t_5.other W7 (Ne.symm ne_a1_tt_3)
  have Fn_3 := Fn_3_n
  refine Gl.pre (B := T7.setTop (mkF m 44 #[.val (.ref a1), .val (.ref a2), .val (.int (Int32.ofNat ds.length))] [(.ref a1)])) (fun _ k => st7 _ (XS.aloadN X7.here hx rfl (hb hby d6_43) rfl rfl k)) ?_
  refine Gl.out X7 (v := some (.ref a1)) (fun h => by rw [hret] at h; cases h) hlk (fun fs hr => retOut X7 hx hret rfl (Or.inr (Or.inr (Or.inr (Or.inr ⟨rfl, rfl, rfl⟩)))) (hb hby d6_44) hr) ?_ (by decide) (by decide)
  show Q_asbAppG Z _ _ _ _ _ _ _ _ _ h0 n0 _ T7.heap _
  rw [e7]
  exact ⟨tt_3, kk_3, rfl, N7, K0, sz_tt_3, E_a1, Fv_3, Fc_3, by rw [List.length_append, ← own_add32]; exact Fn_3, V_t_5, by rw [List.length_append]; exact hr4, Nat.le_of_ble_eq_true rfl, own_all_app hb_a1 hb_a2⟩
theorem ef_sbAppG (m : MethodId) (x0 : Addr) (x1 : Addr) : entryFrame m #[(.ref x0), (.ref x1)] 2 = mkF m 0 #[.val (.ref x0), .val (.ref x1)] [] := by first | (simp [entryFrame, mkF, argsToLocals, Value.category]; done) | rfl
def Q_sbAppG (Z : State) (a1 : Addr) (a2 : Addr) (t : Addr) (k : ClassId) (cs : List Int32) (t2 : Addr) (k2 : ClassId) (ds : List Int32) (G1 : Int32) (h0 : Heap) (n0 : Nat) (v : Option Value) (h : Heap) (L : List Loc) : Prop := ∃ tt : Addr, ∃ kk : ClassId, v = some (.ref a1) ∧ Fr n0 L ∧ (Keep h0 h [a1]) ∧ (h0.size ≤ tt) ∧ (SBs Z h a1 tt kk 34 (cs ++ ds))
set_option maxRecDepth 65536 in
set_option maxHeartbeats 40000000 in
theorem sbAppG (l : Launch) (Z : State) (a0 : Array Value) (hw : ∀ d ∈ tables_1, d.before a0 Z = true) (ws : List Jvm.Cond) (a1 : Addr) (a2 : Addr) (t : Addr) (k : ClassId) (cs : List Int32) (t2 : Addr) (k2 : ClassId) (ds : List Int32) (G1 : Int32) (h0 : Heap) (n0 : Nat) (Z0 : n0 ≤ h0.size) (sb : SBs Z h0 a1 t k 16 cs) (sv : StrV Z h0 a2 t2 k2 ds) (g_a1 : n0 ≤ a1) (hr : 16 < cs.length + ds.length) (hr4 : cs.length + ds.length ≤ 34) (h2a : a2 ≠ a1) (ht2 : t2 ≠ a1) (O2 : Sta Z Z.heap "java/lang/String" "COMPACT_STRINGS" "Z" (.int G1)) (P5 : ¬ (G1 = (0 : Int32))) (Od : Old Z n0 h0) :
    MetFree l (⟨"java/lang/StringBuilder", "append", "(Ljava/lang/String;)Ljava/lang/StringBuilder;"⟩ : MethodName) (head1 (Jvm.Cond.code (⟨"java/lang/StringBuilder", "append", "(Ljava/lang/String;)Ljava/lang/StringBuilder;"⟩ : MethodName) jdk_67_method_7_code 2 (some (.object "java/lang/StringBuilder")) :: ws) ({ frames := 5, cells := 1, slots := 34, locals := 83 } : Room)) (fun a U => a = #[(.ref a1), (.ref a2)] ∧ Z.Warmed39 U.vm ∧ U.heap = h0) (fun _ _ _ _ _ => True) (fun _ U o U' => ∃ v L, o = .returned v ∧ Q_sbAppG Z a1 a2 t k cs t2 k2 ds G1 h0 n0 v U'.heap L ∧ FrameEnd U o U' L ({ frames := 5, cells := 1, slots := 34, locals := 83 } : Room).cells ({ frames := 5, cells := 1, slots := 34, locals := 83 } : Room).slots) := by
  refine MetFree.of_bodySF (plainFor_of_name pn_java_lang_StringBuilder) hisR ?_
  intro p e s m args below meth c s₁ Bd hml0 hP hK
  obtain ⟨rfl, hZ, hh⟩ := hP
  have hx := Bd.exec
  have hby := Bd.bytes
  have hml : c.maxLocals = 2 := hml0
  have hown : s.vm.findClass "java/lang/StringBuilder" = some m.cls := findClass_of_methodNamed Bd.named
  have hnm := (name_of_methodNamed Bd.named Bd.method).1
  have hret : meth.sig.returnType = (some (.object "java/lang/StringBuilder")) := Bd.returns
  have hlk : meth.locks = false := BodyLoose.notSynchronized Bd
  have X0 : Stand p l e ({ frames := 5, cells := 1, slots := 34, locals := 83 } : Room) s m #[(.ref a1), (.ref a2)] below meth c s₁ [] 0 0 := Stand.of_body Bd
  have e0 : s₁.heap = h0 := by rw [← hh, Bd.state]; rfl
  have N0 := Fr.nil n0
  have K0 : Keep h0 h0 [a1] := Keep.refl h0 _
  show Gl p.tables e below s (Q_sbAppG Z a1 a2 t k cs t2 k2 ds G1 h0 n0) 1 34 _
  refine Gl.pre (B := s₁.setTop (mkF m 0 #[.val (.ref a1), .val (.ref a2)] [])) (fun _ k => castTop (ef_sbAppG m a1 a2) k) ?_
  have E_a1 := sb.1
  refine Gl.pre (B := s₁.setTop (mkF m 2 #[.val (.ref a1), .val (.ref a2)] [(.ref a2), (.ref a1)])) (fun _ k => XS.aloadN X0.here hx rfl (hb hby d5_0) rfl rfl (XS.aloadN X0.here hx rfl (hb hby d5_1) rfl rfl k)) ?_
  obtain ⟨rv1, _, ⟨T1, L1, k1, n1⟩, -, X1, ⟨Lc1, hQ1, l1, y1, z1⟩, st1⟩ := superBack X0 hx hZ (y := (⟨"java/lang/AbstractStringBuilder", "append", "(Ljava/lang/String;)Ljava/lang/AbstractStringBuilder;"⟩ : MethodName)) hown (wq hw 40 rfl) (own_same (y := (⟨"java/lang/AbstractStringBuilder", "append", "(Ljava/lang/String;)Ljava/lang/AbstractStringBuilder;"⟩ : MethodName)) (wq hw 41 rfl) (wq hw 63 rfl) rfl (by decide)) (wq hw 41 rfl) (wq hw 42 rfl) (by decide) (backOf (W := 0) (asbAppG l Z a0 hw [] a1 a2 t k cs t2 k2 ds G1 h0 n0 Z0 sb sv g_a1 hr hr4 h2a ht2 O2 P5 Od) hZ (wq hw 44 rfl) (wq hw 17 rfl) (by decide) (by decide)) e0 (Ins.self E_a1) (g := (mkF m 2 #[.val (.ref a1), .val (.ref a2)] [(.ref a2), (.ref a1)])) rfl (by rw [hml]; rfl) (wq hw 44 rfl) (argsL := [(.ref a2)]) (rest := []) (lenOf pd_7 rfl) rfl (by show 2 * 0 + _ ≤ _; exact Nat.le_of_eq rfl) (hb hby d5_2) (fun _ _ => ⟨rfl, e0, (by decide : 0 + 1 ≤ _), (by decide : 0 + 34 ≤ _)⟩)
  dsimp only [Pt.U, Pt.locs, Pt.cells, Pt.slots] at X1 l1 y1 z1 st1 hQ1
  have X1 := own_reb X1 l1 y1 z1
  obtain ⟨tt_1, kk_1, rfl, N1q, K1, nz_tt_1, sb_1⟩ := hQ1
  have N1 := Fr.app N0 N1q
  have sz_tt_1 : h0.size ≤ tt_1 := Nat.le_trans K0.1 nz_tt_1
  have K0 := K0.trans K1 (allS (Or.inl (List.mem_of_getElem? (i := 0) rfl)) all0)
  refine Gl.pre (B := T1.setTop (mkF m 7 #[.val (.ref a1), .val (.ref a2)] [(.ref a1)])) (fun _ k => st1.trans (XS.pop X1.here hx rfl (hb hby d5_5) rfl rfl (XS.aloadN X1.here hx rfl (hb hby d5_6) rfl rfl k))) ?_
  refine Gl.out X1 (v := some (.ref a1)) (fun h => by rw [hret] at h; cases h) hlk (fun fs hr => retOut X1 hx hret rfl (Or.inr (Or.inr (Or.inr (Or.inr ⟨rfl, rfl, rfl⟩)))) (hb hby d5_7) hr) ?_ (by decide) (by decide)
  show Q_sbAppG Z _ _ _ _ _ _ _ _ _ h0 n0 _ T1.heap _
  exact ⟨tt_1, kk_1, rfl, N1, K0, sz_tt_1, sb_1⟩
theorem d42_0 : decode jdk_42_method_154_code 0 = .ok (.getstatic 38, 3) := by decide +kernel
theorem d42_3 : decode jdk_42_method_154_code 3 = .ok (.ifCond .eq 14, 3) := by decide +kernel
theorem d42_6 : decode jdk_42_method_154_code 6 = .ok (.aload_n 0, 1) := by decide +kernel
theorem d42_7 : decode jdk_42_method_154_code 7 = .ok (.getfield 15, 3) := by decide +kernel
theorem d42_10 : decode jdk_42_method_154_code 10 = .ok (.ifCond .ne 7, 3) := by decide +kernel
theorem d42_13 : decode jdk_42_method_154_code 13 = .ok (.iconst 1, 1) := by decide +kernel
theorem d42_14 : decode jdk_42_method_154_code 14 = .ok (.goto 4, 3) := by decide +kernel
theorem d42_18 : decode jdk_42_method_154_code 18 = .ok (.ireturn, 1) := by decide +kernel
theorem ef_strLat (m : MethodId) (x0 : Addr) : entryFrame m #[(.ref x0)] 1 = mkF m 0 #[.val (.ref x0)] [] := by first | (simp [entryFrame, mkF, argsToLocals, Value.category]; done) | rfl
def Q_strLat (Z : State) (a1 : Addr) (G1 : Int32) (h0 : Heap) (n0 : Nat) (v : Option Value) (h : Heap) (L : List Loc) : Prop := v = some (.int (1 : Int32)) ∧ Fr n0 L ∧ (h = h0)
set_option maxRecDepth 65536 in
set_option maxHeartbeats 40000000 in
theorem strLat (l : Launch) (Z : State) (a0 : Array Value) (hw : ∀ d ∈ tables_1, d.before a0 Z = true) (ws : List Jvm.Cond) (a1 : Addr) (G1 : Int32) (h0 : Heap) (n0 : Nat) (Z0 : n0 ≤ h0.size) (Fc : Fld Z h0 a1 "java/lang/String" "coder" "B" (.int 0)) (O2 : Sta Z Z.heap "java/lang/String" "COMPACT_STRINGS" "Z" (.int G1)) (P5 : ¬ (G1 = (0 : Int32))) (Od : Old Z n0 h0) :
    MetFree l (⟨"java/lang/String", "isLatin1", "()Z"⟩ : MethodName) (head1 (Jvm.Cond.code (⟨"java/lang/String", "isLatin1", "()Z"⟩ : MethodName) jdk_42_method_154_code 1 (some .boolean) :: ws) ({ frames := 0, cells := 0, slots := 0, locals := 0 } : Room)) (fun a U => a = #[(.ref a1)] ∧ Z.Warmed39 U.vm ∧ U.heap = h0) (fun _ _ _ _ _ => True) (fun _ U o U' => ∃ v L, o = .returned v ∧ Q_strLat Z a1 G1 h0 n0 v U'.heap L ∧ FrameEnd U o U' L ({ frames := 0, cells := 0, slots := 0, locals := 0 } : Room).cells ({ frames := 0, cells := 0, slots := 0, locals := 0 } : Room).slots) := by
  refine MetFree.of_bodySF (plainFor_of_name pn_java_lang_String) hisR ?_
  intro p e s m args below meth c s₁ Bd hml0 hP hK
  obtain ⟨rfl, hZ, hh⟩ := hP
  have hx := Bd.exec
  have hby := Bd.bytes
  have hml : c.maxLocals = 1 := hml0
  have hown : s.vm.findClass "java/lang/String" = some m.cls := findClass_of_methodNamed Bd.named
  have hnm := (name_of_methodNamed Bd.named Bd.method).1
  have hret : meth.sig.returnType = (some .boolean) := Bd.returns
  have hlk : meth.locks = false := BodyLoose.notSynchronized Bd
  have X0 : Stand p l e ({ frames := 0, cells := 0, slots := 0, locals := 0 } : Room) s m #[(.ref a1)] below meth c s₁ [] 0 0 := Stand.of_body Bd
  have e0 : s₁.heap = h0 := by rw [← hh, Bd.state]; rfl
  have N0 := Fr.nil n0
  have K0 : Keep h0 h0 [] := Keep.refl h0 _
  show Gl p.tables e below s (Q_strLat Z a1 G1 h0 n0) 0 0 _
  refine Gl.pre (B := s₁.setTop (mkF m 0 #[.val (.ref a1)] [])) (fun _ k => castTop (ef_strLat m a1) k) ?_
  obtain ⟨T1, X1, e1, st1⟩ := getS2 X0 hx hZ hown (host := "") (Or.inl (wq hw 56 rfl)) Via.refl e0 (O2.ext Od.2) (g := (mkF m 0 #[.val (.ref a1)] [])) rfl (hb hby d42_0)
  refine Gl.pre (B := T1.setTop (mkF m 7 #[.val (.ref a1)] [(.ref a1)])) (fun _ k => st1 _ (XS.ifNo X1.here hx rfl (hb hby d42_3) rfl ((if0 _ _).trans (feq (P5 : ¬ (G1 = (0 : Int32)))).1) (XS.aloadN X1.here hx rfl (hb hby d42_6) rfl rfl k))) ?_
  obtain ⟨T2, X2, e2, st2⟩ := getF X1 hx hZ hown (host := "") (Or.inl (wq hw 57 rfl)) Via.refl e1 Fc (g := (mkF m 7 #[.val (.ref a1)] [(.ref a1)])) rfl rfl (hb hby d42_7)
  refine Gl.pre (B := T2.setTop (mkF m 18 #[.val (.ref a1)] [(.int (1 : Int32))])) (fun _ k => st2 _ (XS.ifNo X2.here hx rfl (hb hby d42_10) rfl ((if0 _ _).trans (teq (by decide : (0 : Int32) = (0 : Int32))).2) (XS.iconst X2.here hx rfl (hb hby d42_13) (XS.goto X2.here hx rfl (pc0 := 14) (pc' := 18) rfl (hb hby d42_14) (by decide) (by decide) k)))) ?_
  refine Gl.out X2 (v := some (.int (1 : Int32))) (fun h => by rw [hret] at h; cases h) hlk (fun fs hr => retN X2 hx (t := .boolean) hret (by simp) (hb hby d42_18) hr) ?_ (by decide) (by decide)
  show Q_strLat Z _ _ h0 n0 _ T2.heap _
  rw [e2]
  exact ⟨rfl, N0, rfl⟩
theorem d45_0 : decode jdk_41_method_11_code 0 = .ok (.iload_n 0, 1) := by decide +kernel
theorem d45_1 : decode jdk_41_method_11_code 1 = .ok (.ifCond .lt 8, 3) := by decide +kernel
theorem d45_4 : decode jdk_41_method_11_code 4 = .ok (.iload_n 0, 1) := by decide +kernel
theorem d45_5 : decode jdk_41_method_11_code 5 = .ok (.iload_n 1, 1) := by decide +kernel
theorem d45_6 : decode jdk_41_method_11_code 6 = .ok (.if_icmp .lt 10, 3) := by decide +kernel
theorem d45_16 : decode jdk_41_method_11_code 16 = .ok (.iload_n 0, 1) := by decide +kernel
theorem d45_17 : decode jdk_41_method_11_code 17 = .ok (.ireturn, 1) := by decide +kernel
theorem pn_jdk_internal_util_Preconditions : plainName "jdk/internal/util/Preconditions" = true := by first | (simp [plainName, overriddenIn]; done) | decide +kernel
theorem ef_pChk (m : MethodId) (x0 : Int32) (x1 : Int32) (x2 : Value) (hv2 : x2.isRef = true) : entryFrame m #[(.int x0), (.int x1), x2] 3 = mkF m 0 #[.val (.int x0), .val (.int x1), .val x2] [] := by
  all_goals rcases ref_cases hv2 with rfl | ⟨_, rfl⟩
  all_goals first | (simp [entryFrame, mkF, argsToLocals, Value.category]; done) | rfl
def Q_pChk (Z : State) (p1 : Int32) (p2 : Int32) (G3 : Value) (h0 : Heap) (n0 : Nat) (v : Option Value) (h : Heap) (L : List Loc) : Prop := v = some (.int p1) ∧ Fr n0 L ∧ (h = h0)
set_option maxRecDepth 65536 in
set_option maxHeartbeats 40000000 in
theorem pChk (l : Launch) (Z : State) (a0 : Array Value) (hw : ∀ d ∈ tables_1, d.before a0 Z = true) (ws : List Jvm.Cond) (p1 : Int32) (p2 : Int32) (G3 : Value) (h0 : Heap) (n0 : Nat) (Z0 : n0 ≤ h0.size) (rG3 : G3.isRef = true) (q1 : ¬ p1 < (0 : Int32)) (q2 : p1 < p2) :
    MetFree l (⟨"jdk/internal/util/Preconditions", "checkIndex", "(IILjava/util/function/BiFunction;)I"⟩ : MethodName) (head1 (Jvm.Cond.code (⟨"jdk/internal/util/Preconditions", "checkIndex", "(IILjava/util/function/BiFunction;)I"⟩ : MethodName) jdk_41_method_11_code 3 (some .int) :: ws) ({ frames := 0, cells := 0, slots := 0, locals := 0 } : Room)) (fun a U => a = #[(.int p1), (.int p2), G3] ∧ Z.Warmed39 U.vm ∧ U.heap = h0) (fun _ _ _ _ _ => True) (fun _ U o U' => ∃ v L, o = .returned v ∧ Q_pChk Z p1 p2 G3 h0 n0 v U'.heap L ∧ FrameEnd U o U' L ({ frames := 0, cells := 0, slots := 0, locals := 0 } : Room).cells ({ frames := 0, cells := 0, slots := 0, locals := 0 } : Room).slots) := by
  refine MetFree.of_bodySF (plainFor_of_name pn_jdk_internal_util_Preconditions) hisR ?_
  intro p e s m args below meth c s₁ Bd hml0 hP hK
  obtain ⟨rfl, hZ, hh⟩ := hP
  have hx := Bd.exec
  have hby := Bd.bytes
  have hml : c.maxLocals = 3 := hml0
  have hown : s.vm.findClass "jdk/internal/util/Preconditions" = some m.cls := findClass_of_methodNamed Bd.named
  have hnm := (name_of_methodNamed Bd.named Bd.method).1
  have hret : meth.sig.returnType = (some .int) := Bd.returns
  have hlk : meth.locks = false := BodyLoose.notSynchronized Bd
  have X0 : Stand p l e ({ frames := 0, cells := 0, slots := 0, locals := 0 } : Room) s m #[(.int p1), (.int p2), G3] below meth c s₁ [] 0 0 := Stand.of_body Bd
  have e0 : s₁.heap = h0 := by rw [← hh, Bd.state]; rfl
  have N0 := Fr.nil n0
  have K0 : Keep h0 h0 [] := Keep.refl h0 _
  show Gl p.tables e below s (Q_pChk Z p1 p2 G3 h0 n0) 0 0 _
  refine Gl.pre (B := s₁.setTop (mkF m 0 #[.val (.int p1), .val (.int p2), .val G3] [])) (fun _ k => castTop (ef_pChk m p1 p2 G3 rG3) k) ?_
  refine Gl.pre (B := s₁.setTop (mkF m 17 #[.val (.int p1), .val (.int p2), .val G3] [(.int p1)])) (fun _ k => XS.iloadN X0.here hx rfl (hb hby d45_0) rfl (XS.ifNo X0.here hx rfl (hb hby d45_1) rfl ((if0 _ _).trans (flt (q1 : ¬ (p1 < (0 : Int32)))).1) (XS.iloadN X0.here hx rfl (hb hby d45_4) rfl (XS.iloadN X0.here hx rfl (hb hby d45_5) rfl (XS.icmpYes X0.here hx rfl (pc0 := 6) (pc' := 16) rfl (hb hby d45_6) rfl (tlt (q2 : p1 < p2)).1 (by decide) (by decide) (XS.iloadN X0.here hx rfl (hb hby d45_16) rfl k)))))) ?_
  refine Gl.out X0 (v := some (.int p1)) (fun h => by rw [hret] at h; cases h) hlk (fun fs hr => retOut X0 hx hret rfl (Or.inl ⟨rfl, Or.inl rfl, _, rfl⟩) (hb hby d45_17) hr) ?_ (by decide) (by decide)
  show Q_pChk Z _ _ _ h0 n0 _ s₁.heap _
  rw [e0]
  exact ⟨rfl, N0, rfl⟩
theorem pd_20 : parseMethodDescriptor "(IILjava/util/function/BiFunction;)I" = some ⟨[.int, .int, (.object "java/util/function/BiFunction")], some .int⟩ := by decide +kernel
theorem d44_0 : decode jdk_42_method_155_code 0 = .ok (.iload_n 0, 1) := by decide +kernel
theorem d44_1 : decode jdk_42_method_155_code 1 = .ok (.iload_n 1, 1) := by decide +kernel
theorem d44_2 : decode jdk_42_method_155_code 2 = .ok (.getstatic 1053, 3) := by decide +kernel
theorem d44_5 : decode jdk_42_method_155_code 5 = .ok (.invokestatic 1059, 3) := by decide +kernel
theorem d44_8 : decode jdk_42_method_155_code 8 = .ok (.pop, 1) := by decide +kernel
theorem d44_9 : decode jdk_42_method_155_code 9 = .ok (.return_, 1) := by decide +kernel
theorem ef_sChk (m : MethodId) (x0 : Int32) (x1 : Int32) : entryFrame m #[(.int x0), (.int x1)] 2 = mkF m 0 #[.val (.int x0), .val (.int x1)] [] := by first | (simp [entryFrame, mkF, argsToLocals, Value.category]; done) | rfl
def Q_sChk (Z : State) (p1 : Int32) (p2 : Int32) (G3 : Value) (h0 : Heap) (n0 : Nat) (v : Option Value) (h : Heap) (L : List Loc) : Prop := v = none ∧ Fr n0 L ∧ (h = h0)
set_option maxRecDepth 65536 in
set_option maxHeartbeats 40000000 in
theorem sChk (l : Launch) (Z : State) (a0 : Array Value) (hw : ∀ d ∈ tables_1, d.before a0 Z = true) (ws : List Jvm.Cond) (p1 : Int32) (p2 : Int32) (G3 : Value) (h0 : Heap) (n0 : Nat) (Z0 : n0 ≤ h0.size) (O4 : Sta Z Z.heap "jdk/internal/util/Preconditions" "SIOOBE_FORMATTER" "Ljava/util/function/BiFunction;" G3) (rG3 : G3.isRef = true) (q1 : ¬ p1 < (0 : Int32)) (q2 : p1 < p2) (Od : Old Z n0 h0) :
    MetFree l (⟨"java/lang/String", "checkIndex", "(II)V"⟩ : MethodName) (head1 (Jvm.Cond.code (⟨"java/lang/String", "checkIndex", "(II)V"⟩ : MethodName) jdk_42_method_155_code 2 none :: ws) ({ frames := 1, cells := 0, slots := 0, locals := 14 } : Room)) (fun a U => a = #[(.int p1), (.int p2)] ∧ Z.Warmed39 U.vm ∧ U.heap = h0) (fun _ _ _ _ _ => True) (fun _ U o U' => ∃ v L, o = .returned v ∧ Q_sChk Z p1 p2 G3 h0 n0 v U'.heap L ∧ FrameEnd U o U' L ({ frames := 1, cells := 0, slots := 0, locals := 14 } : Room).cells ({ frames := 1, cells := 0, slots := 0, locals := 14 } : Room).slots) := by
  refine MetFree.of_bodySF (plainFor_of_name pn_java_lang_String) hisR ?_
  intro p e s m args below meth c s₁ Bd hml0 hP hK
  obtain ⟨rfl, hZ, hh⟩ := hP
  have hx := Bd.exec
  have hby := Bd.bytes
  have hml : c.maxLocals = 2 := hml0
  have hown : s.vm.findClass "java/lang/String" = some m.cls := findClass_of_methodNamed Bd.named
  have hnm := (name_of_methodNamed Bd.named Bd.method).1
  have hret : meth.sig.returnType = none := Bd.returns
  have hlk : meth.locks = false := BodyLoose.notSynchronized Bd
  have X0 : Stand p l e ({ frames := 1, cells := 0, slots := 0, locals := 14 } : Room) s m #[(.int p1), (.int p2)] below meth c s₁ [] 0 0 := Stand.of_body Bd
  have e0 : s₁.heap = h0 := by rw [← hh, Bd.state]; rfl
  have N0 := Fr.nil n0
  have K0 : Keep h0 h0 [] := Keep.refl h0 _
  show Gl p.tables e below s (Q_sChk Z p1 p2 G3 h0 n0) 0 0 _
  refine Gl.pre (B := s₁.setTop (mkF m 0 #[.val (.int p1), .val (.int p2)] [])) (fun _ k => castTop (ef_sChk m p1 p2) k) ?_
  refine Gl.pre (B := s₁.setTop (mkF m 2 #[.val (.int p1), .val (.int p2)] [(.int p2), (.int p1)])) (fun _ k => XS.iloadN X0.here hx rfl (hb hby d44_0) rfl (XS.iloadN X0.here hx rfl (hb hby d44_1) rfl k)) ?_
  obtain ⟨T1, X1, e1, st1⟩ := getS2 X0 hx hZ hown (host := "") (Or.inl (wq hw 260 rfl)) Via.refl e0 (O4.ext Od.2) (g := (mkF m 2 #[.val (.int p1), .val (.int p2)] [(.int p2), (.int p1)])) rfl (hb hby d44_2)
  refine Gl.pre (B := T1.setTop (mkF m 5 #[.val (.int p1), .val (.int p2)] [G3, (.int p2), (.int p1)])) (fun _ k => st1 _ k) ?_
  obtain ⟨rv2, _, ⟨T2, L2, k2, n2⟩, -, X2, ⟨Lc2, hQ2, l2, y2, z2⟩, st2⟩ := Jvm.LawKit.callS X1 hx (y := (⟨"jdk/internal/util/Preconditions", "checkIndex", "(IILjava/util/function/BiFunction;)I"⟩ : MethodName)) hown (mvT hZ (wq hw 262 rfl)) (mvT hZ (wq hw 263 rfl)) (mvT hZ (wq hw 261 rfl)) (mvT hZ (wq hw 264 rfl)) (by decide) (backOf (W := 0) (pChk l Z a0 hw [] p1 p2 G3 h0 n0 Z0 rG3 q1 q2) hZ (wq hw 264 rfl) (wq hw 261 rfl) (by decide) (by decide)) (g := (mkF m 5 #[.val (.int p1), .val (.int p2)] [G3, (.int p2), (.int p1)])) rfl (by rw [hml]; rfl) (argsL := [(.int p1), (.int p2), G3]) (rest := []) (lenOf pd_20 rfl) rfl (by show 2 * 0 + _ ≤ _; exact Nat.le_of_eq rfl) (hb hby d44_5) (fun _ _ => ⟨rfl, e1, (by decide : 0 + 0 ≤ _), (by decide : 0 + 0 ≤ _)⟩)
  dsimp only [Pt.U, Pt.locs, Pt.cells, Pt.slots] at X2 l2 y2 z2 st2 hQ2
  have X2 := own_reb X2 l2 y2 z2
  obtain ⟨rfl, N2q, e2⟩ := hQ2
  have N2 := Fr.app N0 N2q
  refine Gl.pre (B := T2.setTop (mkF m 9 #[.val (.int p1), .val (.int p2)] [])) (fun _ k => st2 _ (XS.pop X2.here hx rfl (hb hby d44_8) rfl rfl k)) ?_
  refine Gl.out X2 (v := none) (fun _ => rfl) hlk (fun fs hr => X2.returnOut hx hret (hb hby d44_9) hr) ?_ (by decide) (by decide)
  show Q_sChk Z _ _ _ h0 n0 _ T2.heap _
  rw [e2]
  exact ⟨rfl, N2, rfl⟩
theorem d43_0 : decode jdk_43_method_2_code 0 = .ok (.iload_n 1, 1) := by decide +kernel
theorem d43_1 : decode jdk_43_method_2_code 1 = .ok (.aload_n 0, 1) := by decide +kernel
theorem d43_2 : decode jdk_43_method_2_code 2 = .ok (.arraylength, 1) := by decide +kernel
theorem d43_3 : decode jdk_43_method_2_code 3 = .ok (.invokestatic 9, 3) := by decide +kernel
theorem d43_6 : decode jdk_43_method_2_code 6 = .ok (.aload_n 0, 1) := by decide +kernel
theorem d43_7 : decode jdk_43_method_2_code 7 = .ok (.iload_n 1, 1) := by decide +kernel
theorem d43_8 : decode jdk_43_method_2_code 8 = .ok (.baload, 1) := by decide +kernel
theorem d43_9 : decode jdk_43_method_2_code 9 = .ok (.sipush 255, 3) := by decide +kernel
theorem d43_12 : decode jdk_43_method_2_code 12 = .ok (.iand, 1) := by decide +kernel
theorem d43_13 : decode jdk_43_method_2_code 13 = .ok (.i2c, 1) := by decide +kernel
theorem d43_14 : decode jdk_43_method_2_code 14 = .ok (.ireturn, 1) := by decide +kernel
theorem pn_java_lang_StringLatin1 : plainName "java/lang/StringLatin1" = true := by first | (simp [plainName, overriddenIn]; done) | decide +kernel
theorem ef_l1Char (m : MethodId) (x0 : Addr) (x1 : Int32) : entryFrame m #[(.ref x0), (.int x1)] 2 = mkF m 0 #[.val (.ref x0), .val (.int x1)] [] := by first | (simp [entryFrame, mkF, argsToLocals, Value.category]; done) | rfl
def Q_l1Char (Z : State) (a1 : Addr) (p2 : Int32) (i : Nat) (k : ClassId) (cs : List Int32) (G3 : Value) (h0 : Heap) (n0 : Nat) (v : Option Value) (h : Heap) (L : List Loc) : Prop := v = some (.int (cs.getD i 0)) ∧ Fr n0 L ∧ (h = h0)
set_option maxRecDepth 65536 in
set_option maxHeartbeats 40000000 in
theorem l1Char (l : Launch) (Z : State) (a0 : Array Value) (hw : ∀ d ∈ tables_1, d.before a0 Z = true) (ws : List Jvm.Cond) (a1 : Addr) (p2 : Int32) (i : Nat) (k : ClassId) (cs : List Int32) (G3 : Value) (h0 : Heap) (n0 : Nat) (Z0 : n0 ≤ h0.size) (V_a1 : Arv Z h0 a1 k .byte (Int32.ofNat cs.length) ((cs.map (fun c => c.toInt8.toInt32)).map Value.int) (.int 0)) (hrg : ∀ c ∈ cs, ¬ c < 0 ∧ ¬ (255 : Int32) < c) (hl : cs.length ≤ 4000) (hp2 : p2 = Int32.ofNat i) (hi : i < cs.length) (O4 : Sta Z Z.heap "jdk/internal/util/Preconditions" "SIOOBE_FORMATTER" "Ljava/util/function/BiFunction;" G3) (rG3 : G3.isRef = true) (Od : Old Z n0 h0) :
    MetFree l (⟨"java/lang/StringLatin1", "charAt", "([BI)C"⟩ : MethodName) (head1 (Jvm.Cond.code (⟨"java/lang/StringLatin1", "charAt", "([BI)C"⟩ : MethodName) jdk_43_method_2_code 2 (some .char) :: ws) ({ frames := 2, cells := 0, slots := 0, locals := 27 } : Room)) (fun a U => a = #[(.ref a1), (.int p2)] ∧ Z.Warmed39 U.vm ∧ U.heap = h0) (fun _ _ _ _ _ => True) (fun _ U o U' => ∃ v L, o = .returned v ∧ Q_l1Char Z a1 p2 i k cs G3 h0 n0 v U'.heap L ∧ FrameEnd U o U' L ({ frames := 2, cells := 0, slots := 0, locals := 27 } : Room).cells ({ frames := 2, cells := 0, slots := 0, locals := 27 } : Room).slots) := by
  refine MetFree.of_bodySF (plainFor_of_name pn_java_lang_StringLatin1) hisR ?_
  intro p e s m args below meth c s₁ Bd hml0 hP hK
  obtain ⟨rfl, hZ, hh⟩ := hP
  have hx := Bd.exec
  have hby := Bd.bytes
  have hml : c.maxLocals = 2 := hml0
  have hown : s.vm.findClass "java/lang/StringLatin1" = some m.cls := findClass_of_methodNamed Bd.named
  have hnm := (name_of_methodNamed Bd.named Bd.method).1
  have hret : meth.sig.returnType = (some .char) := Bd.returns
  have hlk : meth.locks = false := BodyLoose.notSynchronized Bd
  have X0 : Stand p l e ({ frames := 2, cells := 0, slots := 0, locals := 27 } : Room) s m #[(.ref a1), (.int p2)] below meth c s₁ [] 0 0 := Stand.of_body Bd
  have e0 : s₁.heap = h0 := by rw [← hh, Bd.state]; rfl
  have N0 := Fr.nil n0
  have K0 : Keep h0 h0 [] := Keep.refl h0 _
  show Gl p.tables e below s (Q_l1Char Z a1 p2 i k cs G3 h0 n0) 0 0 _
  refine Gl.pre (B := s₁.setTop (mkF m 0 #[.val (.ref a1), .val (.int p2)] [])) (fun _ k => castTop (ef_l1Char m a1 p2) k) ?_
  have q1 : ¬ p2 < (0 : Int32) := by rw [hp2]; exact own_nn (by omega)
  have q2 : p2 < (Int32.ofNat cs.length) := by rw [hp2, lt_of32 (by omega) (by omega)]; exact hi
  refine Gl.pre (B := s₁.setTop (mkF m 2 #[.val (.ref a1), .val (.int p2)] [(.ref a1), (.int p2)])) (fun _ k => XS.iloadN X0.here hx rfl (hb hby d43_0) rfl (XS.aloadN X0.here hx rfl (hb hby d43_1) rfl rfl k)) ?_
  obtain ⟨cl1, Ar1, -, Sz1, Nn1, -, -⟩ := id V_a1
  refine Gl.pre (B := s₁.setTop (mkF m 3 #[.val (.ref a1), .val (.int p2)] [(.int (Int32.ofNat cs.length)), (.int p2)])) (fun _ k => ?_) ?_
  · refine X0.arraylength hx (by rw [e0]; exact Ar1.1) (State.isArrayOf_alike hZ.alike Ar1.2.1) (g := (mkF m 2 #[.val (.ref a1), .val (.int p2)] [(.ref a1), (.int p2)])) rfl rfl (hb hby d43_2) _ ?_
    rw [len_of Sz1 Nn1]
    exact k
  obtain ⟨rv2, _, ⟨T2, L2, k2, n2⟩, -, X2, ⟨Lc2, hQ2, l2, y2, z2⟩, st2⟩ := Jvm.LawKit.callS X0 hx (y := (⟨"java/lang/String", "checkIndex", "(II)V"⟩ : MethodName)) hown (mvT hZ (wq hw 257 rfl)) (mvT hZ (wq hw 258 rfl)) (mvT hZ (wq hw 23 rfl)) (mvT hZ (wq hw 259 rfl)) (by decide) (backOf (W := 0) (sChk l Z a0 hw [] p2 (Int32.ofNat cs.length) G3 h0 n0 Z0 O4 rG3 q1 q2 Od) hZ (wq hw 259 rfl) (wq hw 23 rfl) (by decide) (by decide)) (g := (mkF m 3 #[.val (.ref a1), .val (.int p2)] [(.int (Int32.ofNat cs.length)), (.int p2)])) rfl (by rw [hml]; rfl) (argsL := [(.int p2), (.int (Int32.ofNat cs.length))]) (rest := []) (lenOf pd_8 rfl) rfl (by show 2 * 0 + _ ≤ _; exact Nat.le_of_eq rfl) (hb hby d43_3) (fun _ _ => ⟨rfl, e0, (by decide : 0 + 0 ≤ _), (by decide : 0 + 0 ≤ _)⟩)
  dsimp only [Pt.U, Pt.locs, Pt.cells, Pt.slots] at X2 l2 y2 z2 st2 hQ2
  have X2 := own_reb X2 l2 y2 z2
  obtain ⟨rfl, N2q, e2⟩ := hQ2
  have N2 := Fr.app N0 N2q
  refine Gl.pre (B := T2.setTop (mkF m 8 #[.val (.ref a1), .val (.int p2)] [(.int p2), (.ref a1)])) (fun _ k => st2 _ (XS.aloadN X2.here hx rfl (hb hby d43_6) rfl rfl (XS.iloadN X2.here hx rfl (hb hby d43_7) rfl k))) ?_
  obtain ⟨cl3, Ar3, qq3, Sz3, Nn3, Hs3, Gf3⟩ := id V_a1
  refine Gl.pre (B := T2.setTop (mkF m 14 #[.val (.ref a1), .val (.int p2)] [(.int ((((cs.getD i 0).toInt8.toInt32) &&& (255 : Int32)).toUInt32.toUInt16.toUInt32.toInt32))])) (fun _ k => X2.baloadBytes hx (j := p2) (v := (.int ((cs.getD i 0).toInt8.toInt32))) (by rw [e2]; exact Ar3.1) (State.isArrayOf_alike hZ.alike Ar3.2.1) Ar3.2.2 (inb_of Sz3 ⟨q1, q2⟩) (Hs3.at (inb_of Sz3 ⟨q1, q2⟩) (by rw [hp2, own_n32 (by omega)]; exact own_get hi)) (g := (mkF m 8 #[.val (.ref a1), .val (.int p2)] [(.int p2), (.ref a1)])) rfl rfl (hb hby d43_8) _ (XS.sipush X2.here hx rfl (hb hby d43_9) (XS.iand X2.here hx rfl (hb hby d43_12) rfl (XS.i2c X2.here hx rfl (hb hby d43_13) rfl k)))) ?_
  refine Gl.out X2 (v := some (.int (nar .char ((((cs.getD i 0).toInt8.toInt32) &&& (255 : Int32)).toUInt32.toUInt16.toUInt32.toInt32)))) (fun h => by rw [hret] at h; cases h) hlk (fun fs hr => retN X2 hx (t := .char) hret (by simp) (hb hby d43_14) hr) ?_ (by decide) (by decide)
  show Q_l1Char Z _ _ _ _ _ _ h0 n0 _ T2.heap _
  rw [e2]
  exact ⟨congrArg (fun z => some (Value.int z)) (own_l1 (hrg _ (own_mem_getD hi))), N2, rfl⟩
theorem pd_21 : parseMethodDescriptor "([BI)C" = some ⟨[(.array .byte), .int], some .char⟩ := by decide +kernel
theorem d41_0 : decode jdk_42_method_56_code 0 = .ok (.aload_n 0, 1) := by decide +kernel
theorem d41_1 : decode jdk_42_method_56_code 1 = .ok (.invokevirtual 492, 3) := by decide +kernel
theorem d41_4 : decode jdk_42_method_56_code 4 = .ok (.ifCond .eq 12, 3) := by decide +kernel
theorem d41_7 : decode jdk_42_method_56_code 7 = .ok (.aload_n 0, 1) := by decide +kernel
theorem d41_8 : decode jdk_42_method_56_code 8 = .ok (.getfield 9, 3) := by decide +kernel
theorem d41_11 : decode jdk_42_method_56_code 11 = .ok (.iload_n 1, 1) := by decide +kernel
theorem d41_12 : decode jdk_42_method_56_code 12 = .ok (.invokestatic 495, 3) := by decide +kernel
theorem d41_15 : decode jdk_42_method_56_code 15 = .ok (.ireturn, 1) := by decide +kernel
theorem ef_strChar (m : MethodId) (x0 : Addr) (x1 : Int32) : entryFrame m #[(.ref x0), (.int x1)] 2 = mkF m 0 #[.val (.ref x0), .val (.int x1)] [] := by first | (simp [entryFrame, mkF, argsToLocals, Value.category]; done) | rfl
def Q_strChar (Z : State) (a1 : Addr) (p2 : Int32) (i : Nat) (t : Addr) (k : ClassId) (cs : List Int32) (G1 : Int32) (G3 : Value) (h0 : Heap) (n0 : Nat) (v : Option Value) (h : Heap) (L : List Loc) : Prop := v = some (.int (cs.getD i 0)) ∧ Fr n0 L ∧ (h = h0)
set_option maxRecDepth 65536 in
set_option maxHeartbeats 40000000 in
theorem strChar (l : Launch) (Z : State) (a0 : Array Value) (hw : ∀ d ∈ tables_1, d.before a0 Z = true) (ws : List Jvm.Cond) (a1 : Addr) (p2 : Int32) (i : Nat) (t : Addr) (k : ClassId) (cs : List Int32) (G1 : Int32) (G3 : Value) (h0 : Heap) (n0 : Nat) (Z0 : n0 ≤ h0.size) (sv : StrV Z h0 a1 t k cs) (hp2 : p2 = Int32.ofNat i) (hi : i < cs.length) (O2 : Sta Z Z.heap "java/lang/String" "COMPACT_STRINGS" "Z" (.int G1)) (P5 : ¬ (G1 = (0 : Int32))) (O4 : Sta Z Z.heap "jdk/internal/util/Preconditions" "SIOOBE_FORMATTER" "Ljava/util/function/BiFunction;" G3) (rG3 : G3.isRef = true) (Od : Old Z n0 h0) :
    MetFree l (⟨"java/lang/String", "charAt", "(I)C"⟩ : MethodName) (head1 (Jvm.Cond.code (⟨"java/lang/String", "charAt", "(I)C"⟩ : MethodName) jdk_42_method_56_code 2 (some .char) :: ws) ({ frames := 3, cells := 0, slots := 0, locals := 40 } : Room)) (fun a U => a = #[(.ref a1), (.int p2)] ∧ Z.Warmed39 U.vm ∧ U.heap = h0) (fun _ _ _ _ _ => True) (fun _ U o U' => ∃ v L, o = .returned v ∧ Q_strChar Z a1 p2 i t k cs G1 G3 h0 n0 v U'.heap L ∧ FrameEnd U o U' L ({ frames := 3, cells := 0, slots := 0, locals := 40 } : Room).cells ({ frames := 3, cells := 0, slots := 0, locals := 40 } : Room).slots) := by
  refine MetFree.of_bodySF (plainFor_of_name pn_java_lang_String) hisR ?_
  intro p e s m args below meth c s₁ Bd hml0 hP hK
  obtain ⟨rfl, hZ, hh⟩ := hP
  have hx := Bd.exec
  have hby := Bd.bytes
  have hml : c.maxLocals = 2 := hml0
  have hown : s.vm.findClass "java/lang/String" = some m.cls := findClass_of_methodNamed Bd.named
  have hnm := (name_of_methodNamed Bd.named Bd.method).1
  have hret : meth.sig.returnType = (some .char) := Bd.returns
  have hlk : meth.locks = false := BodyLoose.notSynchronized Bd
  have X0 : Stand p l e ({ frames := 3, cells := 0, slots := 0, locals := 40 } : Room) s m #[(.ref a1), (.int p2)] below meth c s₁ [] 0 0 := Stand.of_body Bd
  have e0 : s₁.heap = h0 := by rw [← hh, Bd.state]; rfl
  have N0 := Fr.nil n0
  have K0 : Keep h0 h0 [] := Keep.refl h0 _
  show Gl p.tables e below s (Q_strChar Z a1 p2 i t k cs G1 G3 h0 n0) 0 0 _
  refine Gl.pre (B := s₁.setTop (mkF m 0 #[.val (.ref a1), .val (.int p2)] [])) (fun _ k => castTop (ef_strChar m a1 p2) k) ?_
  obtain ⟨E_a1, Fv_a1, Fc_a1, V_a1, hb_a1, hl_a1⟩ := id sv
  refine Gl.pre (B := s₁.setTop (mkF m 1 #[.val (.ref a1), .val (.int p2)] [(.ref a1)])) (fun _ k => XS.aloadN X0.here hx rfl (hb hby d41_0) rfl rfl k) ?_
  obtain ⟨cq1, kq1, q1a, q1b, q1c⟩ := isOf hZ e0 E_a1
  obtain ⟨rv1, _, ⟨T1, L1, k1, n1⟩, -, X1, ⟨Lc1, hQ1, l1, y1, z1⟩, st1⟩ := X0.virtualBack hx (y := (⟨"java/lang/String", "isLatin1", "()Z"⟩ : MethodName)) (z := (⟨"java/lang/String", "isLatin1", "()Z"⟩ : MethodName)) hown (mvT hZ (wq hw 248 rfl)) (mvT hZ (wq hw 249 rfl)) (notFace_of_selects (args := #[]) (mvT hZ (wq hw 251 rfl))) (mvT hZ (wq hw 251 rfl)) (mvT hZ (wq hw 250 rfl)) (by decide) (backOf (W := 0) (strLat l Z a0 hw [] a1 G1 h0 n0 Z0 Fc_a1 O2 P5 Od) hZ (wq hw 252 rfl) (wq hw 23 rfl) (by decide) (by decide)) q1a q1c (g := (mkF m 1 #[.val (.ref a1), .val (.int p2)] [(.ref a1)])) rfl (by rw [hml]; rfl) (Steps.refl _) (argsL := []) (rest := []) (lenOf pd_12 rfl) rfl (by show 2 * 0 + _ ≤ _; exact Nat.le_of_eq rfl) (hb hby d41_1) (fun _ _ => ⟨rfl, e0, (by decide : 0 + 0 ≤ _), (by decide : 0 + 0 ≤ _)⟩)
  dsimp only [Pt.U, Pt.locs, Pt.cells, Pt.slots] at X1 l1 y1 z1 st1 hQ1
  have X1 := own_reb X1 l1 y1 z1
  obtain ⟨rfl, N1q, e1⟩ := hQ1
  have N1 := Fr.app N0 N1q
  refine Gl.pre (B := T1.setTop (mkF m 8 #[.val (.ref a1), .val (.int p2)] [(.ref a1)])) (fun _ k => st1.trans (XS.ifNo X1.here hx rfl (hb hby d41_4) rfl ((if0 _ _).trans (feq (by decide : ¬ ((1 : Int32) = (0 : Int32)))).1) (XS.aloadN X1.here hx rfl (hb hby d41_7) rfl rfl k))) ?_
  obtain ⟨T2, X2, e2, st2⟩ := getF X1 hx hZ hown (host := "") (Or.inl (wq hw 50 rfl)) Via.refl e1 Fv_a1 (g := (mkF m 8 #[.val (.ref a1), .val (.int p2)] [(.ref a1)])) rfl rfl (hb hby d41_8)
  refine Gl.pre (B := T2.setTop (mkF m 12 #[.val (.ref a1), .val (.int p2)] [(.int p2), (.ref t)])) (fun _ k => st2 _ (XS.iloadN X2.here hx rfl (hb hby d41_11) rfl k)) ?_
  obtain ⟨rv3, _, ⟨T3, L3, k3, n3⟩, -, X3, ⟨Lc3, hQ3, l3, y3, z3⟩, st3⟩ := Jvm.LawKit.callS X2 hx (y := (⟨"java/lang/StringLatin1", "charAt", "([BI)C"⟩ : MethodName)) hown (mvT hZ (wq hw 253 rfl)) (mvT hZ (wq hw 254 rfl)) (mvT hZ (wq hw 255 rfl)) (mvT hZ (wq hw 256 rfl)) (by decide) (backOf (W := 0) (l1Char l Z a0 hw [] t p2 i k cs G3 h0 n0 Z0 V_a1 hb_a1 hl_a1 hp2 hi O4 rG3 Od) hZ (wq hw 256 rfl) (wq hw 255 rfl) (by decide) (by decide)) (g := (mkF m 12 #[.val (.ref a1), .val (.int p2)] [(.int p2), (.ref t)])) rfl (by rw [hml]; rfl) (argsL := [(.ref t), (.int p2)]) (rest := []) (lenOf pd_21 rfl) rfl (by show 2 * 0 + _ ≤ _; exact Nat.le_of_eq rfl) (hb hby d41_12) (fun _ _ => ⟨rfl, e2, (by decide : 0 + 0 ≤ _), (by decide : 0 + 0 ≤ _)⟩)
  dsimp only [Pt.U, Pt.locs, Pt.cells, Pt.slots] at X3 l3 y3 z3 st3 hQ3
  have X3 := own_reb X3 l3 y3 z3
  obtain ⟨rfl, N3q, e3⟩ := hQ3
  have N3 := Fr.app N1 N3q
  refine Gl.pre (B := T3.setTop (mkF m 15 #[.val (.ref a1), .val (.int p2)] [(.int (cs.getD i 0))])) (fun _ k => st3 _ k) ?_
  refine Gl.out X3 (v := some (.int (nar .char (cs.getD i 0)))) (fun h => by rw [hret] at h; cases h) hlk (fun fs hr => retN X3 hx (t := .char) hret (by simp) (hb hby d41_15) hr) ?_ (by decide) (by decide)
  show Q_strChar Z _ _ _ _ _ _ _ _ h0 n0 _ T3.heap _
  rw [e3]
  exact ⟨congrArg (fun z => some (Value.int z)) (own_nar (hb_a1 _ (own_mem_getD hi))), N3, rfl⟩
theorem pd_22 : parseMethodDescriptor "(I)C" = some ⟨[.int], some .char⟩ := by decide +kernel
theorem d40_0 : decode method_3_code 0 = .ok (.aload_n 0, 1) := by decide +kernel
theorem d40_1 : decode method_3_code 1 = .ok (.iload_n 1, 1) := by decide +kernel
theorem d40_2 : decode method_3_code 2 = .ok (.iload_n 3, 1) := by decide +kernel
theorem d40_3 : decode method_3_code 3 = .ok (.iadd, 1) := by decide +kernel
theorem d40_4 : decode method_3_code 4 = .ok (.invokevirtual 43, 3) := by decide +kernel
theorem d40_7 : decode method_3_code 7 = .ok (.aload_n 2, 1) := by decide +kernel
theorem d40_8 : decode method_3_code 8 = .ok (.iload_n 3, 1) := by decide +kernel
theorem d40_9 : decode method_3_code 9 = .ok (.invokevirtual 43, 3) := by decide +kernel
theorem d40_12 : decode method_3_code 12 = .ok (.if_icmp .ne 7, 3) := by decide +kernel
theorem d40_15 : decode method_3_code 15 = .ok (.iconst 1, 1) := by decide +kernel
theorem d40_16 : decode method_3_code 16 = .ok (.goto 4, 3) := by decide +kernel
theorem d40_20 : decode method_3_code 20 = .ok (.ireturn, 1) := by decide +kernel
theorem pn_com_example_bourse_bourse_exchange_BoundedFileTooLongPinLaw : plainName "com/example/bourse/bourse/exchange/BoundedFileTooLongPinLaw" = true := by first | (simp [plainName, overriddenIn]; done) | decide +kernel
theorem ef_lawAt (m : MethodId) (x0 : Addr) (x1 : Int32) (x2 : Addr) (x3 : Int32) : entryFrame m #[(.ref x0), (.int x1), (.ref x2), (.int x3)] 4 = mkF m 0 #[.val (.ref x0), .val (.int x1), .val (.ref x2), .val (.int x3)] [] := by first | (simp [entryFrame, mkF, argsToLocals, Value.category]; done) | rfl
def Q_lawAt (Z : State) (a1 : Addr) (p2 : Int32) (a3 : Addr) (p4 : Int32) (i : Nat) (j : Nat) (t : Addr) (k : ClassId) (cs : List Int32) (t2 : Addr) (k2 : ClassId) (ds : List Int32) (G1 : Int32) (G3 : Value) (h0 : Heap) (n0 : Nat) (v : Option Value) (h : Heap) (L : List Loc) : Prop := v = some (.int (1 : Int32)) ∧ Fr n0 L ∧ (h = h0)
set_option maxRecDepth 65536 in
set_option maxHeartbeats 40000000 in
theorem lawAt (l : Launch) (Z : State) (a0 : Array Value) (hw : ∀ d ∈ tables_1, d.before a0 Z = true) (ws : List Jvm.Cond) (a1 : Addr) (p2 : Int32) (a3 : Addr) (p4 : Int32) (i : Nat) (j : Nat) (t : Addr) (k : ClassId) (cs : List Int32) (t2 : Addr) (k2 : ClassId) (ds : List Int32) (G1 : Int32) (G3 : Value) (h0 : Heap) (n0 : Nat) (Z0 : n0 ≤ h0.size) (sv : StrV Z h0 a1 t k cs) (sw : StrV Z h0 a3 t2 k2 ds) (hpi : (p2 + p4) = Int32.ofNat i) (hi : i < cs.length) (hpj : p4 = Int32.ofNat j) (hj : j < ds.length) (heq : cs.getD i 0 = ds.getD j 0) (O2 : Sta Z Z.heap "java/lang/String" "COMPACT_STRINGS" "Z" (.int G1)) (P5 : ¬ (G1 = (0 : Int32))) (O4 : Sta Z Z.heap "jdk/internal/util/Preconditions" "SIOOBE_FORMATTER" "Ljava/util/function/BiFunction;" G3) (rG3 : G3.isRef = true) (Od : Old Z n0 h0) :
    MetFree l (⟨"com/example/bourse/bourse/exchange/BoundedFileTooLongPinLaw", "at", "(Ljava/lang/String;ILjava/lang/String;I)Z"⟩ : MethodName) (head1 (Jvm.Cond.code (⟨"com/example/bourse/bourse/exchange/BoundedFileTooLongPinLaw", "at", "(Ljava/lang/String;ILjava/lang/String;I)Z"⟩ : MethodName) method_3_code 4 (some .boolean) :: ws) ({ frames := 4, cells := 0, slots := 0, locals := 54 } : Room)) (fun a U => a = #[(.ref a1), (.int p2), (.ref a3), (.int p4)] ∧ Z.Warmed39 U.vm ∧ U.heap = h0) (fun _ _ _ _ _ => True) (fun _ U o U' => ∃ v L, o = .returned v ∧ Q_lawAt Z a1 p2 a3 p4 i j t k cs t2 k2 ds G1 G3 h0 n0 v U'.heap L ∧ FrameEnd U o U' L ({ frames := 4, cells := 0, slots := 0, locals := 54 } : Room).cells ({ frames := 4, cells := 0, slots := 0, locals := 54 } : Room).slots) := by
  refine MetFree.of_bodySF (plainFor_of_name pn_com_example_bourse_bourse_exchange_BoundedFileTooLongPinLaw) hisR ?_
  intro p e s m args below meth c s₁ Bd hml0 hP hK
  obtain ⟨rfl, hZ, hh⟩ := hP
  have hx := Bd.exec
  have hby := Bd.bytes
  have hml : c.maxLocals = 4 := hml0
  have hown : s.vm.findClass "com/example/bourse/bourse/exchange/BoundedFileTooLongPinLaw" = some m.cls := findClass_of_methodNamed Bd.named
  have hnm := (name_of_methodNamed Bd.named Bd.method).1
  have hret : meth.sig.returnType = (some .boolean) := Bd.returns
  have hlk : meth.locks = false := BodyLoose.notSynchronized Bd
  have X0 : Stand p l e ({ frames := 4, cells := 0, slots := 0, locals := 54 } : Room) s m #[(.ref a1), (.int p2), (.ref a3), (.int p4)] below meth c s₁ [] 0 0 := Stand.of_body Bd
  have e0 : s₁.heap = h0 := by rw [← hh, Bd.state]; rfl
  have N0 := Fr.nil n0
  have K0 : Keep h0 h0 [] := Keep.refl h0 _
  show Gl p.tables e below s (Q_lawAt Z a1 p2 a3 p4 i j t k cs t2 k2 ds G1 G3 h0 n0) 0 0 _
  refine Gl.pre (B := s₁.setTop (mkF m 0 #[.val (.ref a1), .val (.int p2), .val (.ref a3), .val (.int p4)] [])) (fun _ k => castTop (ef_lawAt m a1 p2 a3 p4) k) ?_
  have E_a1 := sv.1
  have E_a3 := sw.1
  refine Gl.pre (B := s₁.setTop (mkF m 4 #[.val (.ref a1), .val (.int p2), .val (.ref a3), .val (.int p4)] [(.int (p2 + p4)), (.ref a1)])) (fun _ k => XS.aloadN X0.here hx rfl (hb hby d40_0) rfl rfl (XS.iloadN X0.here hx rfl (hb hby d40_1) rfl (XS.iloadN X0.here hx rfl (hb hby d40_2) rfl (XS.iadd X0.here hx rfl (hb hby d40_3) rfl k)))) ?_
  obtain ⟨cq1, kq1, q1a, q1b, q1c⟩ := isOf hZ e0 E_a1
  obtain ⟨rv1, _, ⟨T1, L1, k1, n1⟩, -, X1, ⟨Lc1, hQ1, l1, y1, z1⟩, st1⟩ := X0.virtualBack hx (y := (⟨"java/lang/String", "charAt", "(I)C"⟩ : MethodName)) (z := (⟨"java/lang/String", "charAt", "(I)C"⟩ : MethodName)) hown (mvT hZ (wq hw 243 rfl)) (mvT hZ (wq hw 244 rfl)) (notFace_of_selects (args := #[]) (mvT hZ (wq hw 246 rfl))) (mvT hZ (wq hw 246 rfl)) (mvT hZ (wq hw 245 rfl)) (by decide) (backOf (W := 0) (strChar l Z a0 hw [] a1 (p2 + p4) i t k cs G1 G3 h0 n0 Z0 sv hpi hi O2 P5 O4 rG3 Od) hZ (wq hw 247 rfl) (wq hw 23 rfl) (by decide) (by decide)) q1a q1c (g := (mkF m 4 #[.val (.ref a1), .val (.int p2), .val (.ref a3), .val (.int p4)] [(.int (p2 + p4)), (.ref a1)])) rfl (by rw [hml]; rfl) (Steps.refl _) (argsL := [(.int (p2 + p4))]) (rest := []) (lenOf pd_22 rfl) rfl (by show 2 * 0 + _ ≤ _; exact Nat.le_of_eq rfl) (hb hby d40_4) (fun _ _ => ⟨rfl, e0, (by decide : 0 + 0 ≤ _), (by decide : 0 + 0 ≤ _)⟩)
  dsimp only [Pt.U, Pt.locs, Pt.cells, Pt.slots] at X1 l1 y1 z1 st1 hQ1
  have X1 := own_reb X1 l1 y1 z1
  obtain ⟨rfl, N1q, e1⟩ := hQ1
  have N1 := Fr.app N0 N1q
  refine Gl.pre (B := T1.setTop (mkF m 9 #[.val (.ref a1), .val (.int p2), .val (.ref a3), .val (.int p4)] [(.int p4), (.ref a3), (.int (cs.getD i 0))])) (fun _ k => st1.trans (XS.aloadN X1.here hx rfl (hb hby d40_7) rfl rfl (XS.iloadN X1.here hx rfl (hb hby d40_8) rfl k))) ?_
  obtain ⟨cq2, kq2, q2a, q2b, q2c⟩ := isOf hZ e1 E_a3
  obtain ⟨rv2, _, ⟨T2, L2, k2, n2⟩, -, X2, ⟨Lc2, hQ2, l2, y2, z2⟩, st2⟩ := X1.virtualBack hx (y := (⟨"java/lang/String", "charAt", "(I)C"⟩ : MethodName)) (z := (⟨"java/lang/String", "charAt", "(I)C"⟩ : MethodName)) hown (mvT hZ (wq hw 243 rfl)) (mvT hZ (wq hw 244 rfl)) (notFace_of_selects (args := #[]) (mvT hZ (wq hw 246 rfl))) (mvT hZ (wq hw 246 rfl)) (mvT hZ (wq hw 245 rfl)) (by decide) (backOf (W := 1) (strChar l Z a0 hw [] a3 p4 j t2 k2 ds G1 G3 h0 n0 Z0 sw hpj hj O2 P5 O4 rG3 Od) hZ (wq hw 247 rfl) (wq hw 23 rfl) (by decide) (by decide)) q2a q2c (g := (mkF m 9 #[.val (.ref a1), .val (.int p2), .val (.ref a3), .val (.int p4)] [(.int p4), (.ref a3), (.int (cs.getD i 0))])) rfl (by rw [hml]; rfl) (Steps.refl _) (argsL := [(.int p4)]) (rest := [(.int (cs.getD i 0))]) (lenOf pd_22 rfl) rfl (by show 2 * 0 + _ ≤ _; exact Nat.le_of_eq rfl) (hb hby d40_9) (fun _ _ => ⟨rfl, e1, (by decide : 0 + 0 ≤ _), (by decide : 0 + 0 ≤ _)⟩)
  dsimp only [Pt.U, Pt.locs, Pt.cells, Pt.slots] at X2 l2 y2 z2 st2 hQ2
  have X2 := own_reb X2 l2 y2 z2
  obtain ⟨rfl, N2q, e2⟩ := hQ2
  have N2 := Fr.app N1 N2q
  refine Gl.pre (B := T2.setTop (mkF m 20 #[.val (.ref a1), .val (.int p2), .val (.ref a3), .val (.int p4)] [(.int (1 : Int32))])) (fun _ k => st2.trans (XS.icmpNo X2.here hx rfl (hb hby d40_12) rfl (teq (heq : (cs.getD i 0) = (ds.getD j 0))).2 (XS.iconst X2.here hx rfl (hb hby d40_15) (XS.goto X2.here hx rfl (pc0 := 16) (pc' := 20) rfl (hb hby d40_16) (by decide) (by decide) k)))) ?_
  refine Gl.out X2 (v := some (.int (1 : Int32))) (fun h => by rw [hret] at h; cases h) hlk (fun fs hr => retN X2 hx (t := .boolean) hret (by simp) (hb hby d40_20) hr) ?_ (by decide) (by decide)
  show Q_lawAt Z _ _ _ _ _ _ _ _ _ _ _ _ _ _ h0 n0 _ T2.heap _
  rw [e2]
  exact ⟨rfl, N2, rfl⟩
theorem d47_0 : decode method_5_code 0 = .ok (.iload_n 0, 1) := by decide +kernel
theorem d47_1 : decode method_5_code 1 = .ok (.ifCond .gt 5, 3) := by decide +kernel
theorem d47_6 : decode method_5_code 6 = .ok (.iload_n 0, 1) := by decide +kernel
theorem d47_7 : decode method_5_code 7 = .ok (.iconst 1, 1) := by decide +kernel
theorem d47_8 : decode method_5_code 8 = .ok (.if_icmp .ne 7, 3) := by decide +kernel
theorem d47_11 : decode method_5_code 11 = .ok (.ldc2_w 51, 3) := by decide +kernel
theorem d47_14 : decode method_5_code 14 = .ok (.lreturn, 1) := by decide +kernel
theorem d47_15 : decode method_5_code 15 = .ok (.iload_n 0, 1) := by decide +kernel
theorem d47_16 : decode method_5_code 16 = .ok (.iconst 2, 1) := by decide +kernel
theorem d47_17 : decode method_5_code 17 = .ok (.if_icmp .ne 7, 3) := by decide +kernel
theorem d47_20 : decode method_5_code 20 = .ok (.ldc2_w 53, 3) := by decide +kernel
theorem d47_23 : decode method_5_code 23 = .ok (.lreturn, 1) := by decide +kernel
theorem d47_24 : decode method_5_code 24 = .ok (.iload_n 0, 1) := by decide +kernel
theorem d47_25 : decode method_5_code 25 = .ok (.iconst 3, 1) := by decide +kernel
theorem d47_26 : decode method_5_code 26 = .ok (.if_icmp .ne 7, 3) := by decide +kernel
theorem d47_29 : decode method_5_code 29 = .ok (.ldc2_w 55, 3) := by decide +kernel
theorem d47_32 : decode method_5_code 32 = .ok (.lreturn, 1) := by decide +kernel
theorem d47_33 : decode method_5_code 33 = .ok (.iload_n 0, 1) := by decide +kernel
theorem d47_34 : decode method_5_code 34 = .ok (.iconst 4, 1) := by decide +kernel
theorem d47_35 : decode method_5_code 35 = .ok (.if_icmp .ne 7, 3) := by decide +kernel
theorem d47_38 : decode method_5_code 38 = .ok (.ldc2_w 57, 3) := by decide +kernel
theorem d47_41 : decode method_5_code 41 = .ok (.lreturn, 1) := by decide +kernel
theorem d47_42 : decode method_5_code 42 = .ok (.iload_n 0, 1) := by decide +kernel
theorem d47_43 : decode method_5_code 43 = .ok (.iconst 5, 1) := by decide +kernel
theorem d47_44 : decode method_5_code 44 = .ok (.if_icmp .ne 7, 3) := by decide +kernel
theorem d47_47 : decode method_5_code 47 = .ok (.ldc2_w 59, 3) := by decide +kernel
theorem d47_50 : decode method_5_code 50 = .ok (.lreturn, 1) := by decide +kernel
theorem d47_51 : decode method_5_code 51 = .ok (.iload_n 0, 1) := by decide +kernel
theorem d47_52 : decode method_5_code 52 = .ok (.bipush 6, 2) := by decide +kernel
theorem d47_54 : decode method_5_code 54 = .ok (.if_icmp .ne 7, 3) := by decide +kernel
theorem d47_57 : decode method_5_code 57 = .ok (.ldc2_w 61, 3) := by decide +kernel
theorem d47_60 : decode method_5_code 60 = .ok (.lreturn, 1) := by decide +kernel
theorem d47_61 : decode method_5_code 61 = .ok (.iload_n 0, 1) := by decide +kernel
theorem d47_62 : decode method_5_code 62 = .ok (.bipush 7, 2) := by decide +kernel
theorem d47_64 : decode method_5_code 64 = .ok (.if_icmp .ne 7, 3) := by decide +kernel
theorem d47_67 : decode method_5_code 67 = .ok (.ldc2_w 63, 3) := by decide +kernel
theorem d47_70 : decode method_5_code 70 = .ok (.lreturn, 1) := by decide +kernel
theorem d47_71 : decode method_5_code 71 = .ok (.iload_n 0, 1) := by decide +kernel
theorem d47_72 : decode method_5_code 72 = .ok (.bipush 8, 2) := by decide +kernel
theorem d47_74 : decode method_5_code 74 = .ok (.if_icmp .ne 7, 3) := by decide +kernel
theorem d47_77 : decode method_5_code 77 = .ok (.ldc2_w 65, 3) := by decide +kernel
theorem d47_80 : decode method_5_code 80 = .ok (.lreturn, 1) := by decide +kernel
theorem d47_81 : decode method_5_code 81 = .ok (.ldc2_w 67, 3) := by decide +kernel
theorem d47_84 : decode method_5_code 84 = .ok (.lreturn, 1) := by decide +kernel
theorem d47_4 : decode method_5_code 4 = .ok (.lconst 1, 1) := by decide +kernel
theorem d47_5 : decode method_5_code 5 = .ok (.lreturn, 1) := by decide +kernel
theorem ef_lawPow (m : MethodId) (x0 : Int32) : entryFrame m #[(.int x0)] 1 = mkF m 0 #[.val (.int x0)] [] := by first | (simp [entryFrame, mkF, argsToLocals, Value.category]; done) | rfl
def Q_lawPow (Z : State) (p1 : Int32) (e9 : Nat) (h0 : Heap) (n0 : Nat) (v : Option Value) (h : Heap) (L : List Loc) : Prop := v = some (.long (Int64.ofNat (10 ^ e9))) ∧ Fr n0 L ∧ (h = h0)
set_option maxRecDepth 65536 in
set_option maxHeartbeats 40000000 in
theorem lawPow (l : Launch) (Z : State) (a0 : Array Value) (hw : ∀ d ∈ tables_1, d.before a0 Z = true) (ws : List Jvm.Cond) (p1 : Int32) (e9 : Nat) (h0 : Heap) (n0 : Nat) (Z0 : n0 ≤ h0.size) (hp1 : p1 = Int32.ofNat e9) (he : e9 ≤ 9) :
    MetFree l (⟨"com/example/bourse/bourse/exchange/BoundedFileTooLongPinLaw", "pow10", "(I)J"⟩ : MethodName) (head1 (Jvm.Cond.code (⟨"com/example/bourse/bourse/exchange/BoundedFileTooLongPinLaw", "pow10", "(I)J"⟩ : MethodName) method_5_code 1 (some .long) :: ws) ({ frames := 0, cells := 0, slots := 0, locals := 0 } : Room)) (fun a U => a = #[(.int p1)] ∧ Z.Warmed39 U.vm ∧ U.heap = h0) (fun _ _ _ _ _ => True) (fun _ U o U' => ∃ v L, o = .returned v ∧ Q_lawPow Z p1 e9 h0 n0 v U'.heap L ∧ FrameEnd U o U' L ({ frames := 0, cells := 0, slots := 0, locals := 0 } : Room).cells ({ frames := 0, cells := 0, slots := 0, locals := 0 } : Room).slots) := by
  refine MetFree.of_bodySF (plainFor_of_name pn_com_example_bourse_bourse_exchange_BoundedFileTooLongPinLaw) hisR ?_
  intro p e s m args below meth c s₁ Bd hml0 hP hK
  obtain ⟨rfl, hZ, hh⟩ := hP
  have hx := Bd.exec
  have hby := Bd.bytes
  have hml : c.maxLocals = 1 := hml0
  have hown : s.vm.findClass "com/example/bourse/bourse/exchange/BoundedFileTooLongPinLaw" = some m.cls := findClass_of_methodNamed Bd.named
  have hnm := (name_of_methodNamed Bd.named Bd.method).1
  have hret : meth.sig.returnType = (some .long) := Bd.returns
  have hlk : meth.locks = false := BodyLoose.notSynchronized Bd
  have X0 : Stand p l e ({ frames := 0, cells := 0, slots := 0, locals := 0 } : Room) s m #[(.int p1)] below meth c s₁ [] 0 0 := Stand.of_body Bd
  have e0 : s₁.heap = h0 := by rw [← hh, Bd.state]; rfl
  have N0 := Fr.nil n0
  have K0 : Keep h0 h0 [] := Keep.refl h0 _
  show Gl p.tables e below s (Q_lawPow Z p1 e9 h0 n0) 0 0 _
  refine Gl.pre (B := s₁.setTop (mkF m 0 #[.val (.int p1)] [])) (fun _ k => castTop (ef_lawPow m p1) k) ?_
  refine Gl.pre (B := s₁.setTop (mkF m 1 #[.val (.int p1)] [(.int p1)])) (fun _ k => XS.iloadN X0.here hx rfl (hb hby d47_0) rfl k) ?_
  by_cases hc1_1 : (0 : Int32) < p1
  · refine Gl.pre (B := s₁.setTop (mkF m 8 #[.val (.int p1)] [(.int (1 : Int32)), (.int p1)])) (fun _ k => XS.ifYes X0.here hx rfl (pc0 := 1) (pc' := 6) rfl (hb hby d47_1) rfl ((if0 _ _).trans (tlt hc1_1).2.2.1) (by decide) (by decide) (XS.iloadN X0.here hx rfl (hb hby d47_6) rfl (XS.iconst X0.here hx rfl (hb hby d47_7) k))) ?_
    by_cases hc8_2 : p1 = (1 : Int32)
    · refine Gl.pre (B := s₁.setTop (mkF m 14 #[.val (.int p1)] [(.long (10 : Int64))])) (fun _ k => XS.icmpNo X0.here hx rfl (hb hby d47_8) rfl (teq hc8_2).2 (X0.ldc2Long hx hown (mvT hZ (wq hw 236 rfl)) (g := (mkF m 11 #[.val (.int p1)] [])) rfl (hb hby d47_11) _ k)) ?_
      refine Gl.out X0 (v := some (.long (10 : Int64))) (fun h => by rw [hret] at h; cases h) hlk (fun fs hr => retOut X0 hx hret rfl (Or.inr (Or.inl ⟨rfl, rfl, _, rfl⟩)) (hb hby d47_14) hr) ?_ (by decide) (by decide)
      show Q_lawPow Z _ _ h0 n0 _ s₁.heap _
      rw [e0]
      subst hp1
      have qq : ∀ e : Fin 10, (decide ((0 : Int32) < (Int32.ofNat e.val)) && (decide ((Int32.ofNat e.val) = (1 : Int32)) && (true))) = true → (10 : Int64) = Int64.ofNat (10 ^ e.val) := by decide +kernel
      exact ⟨congrArg (fun z => some (Value.long z)) (qq ⟨e9, Nat.lt_succ_of_le he⟩ (own_band (decide_eq_true hc1_1) (own_band (decide_eq_true hc8_2) rfl))), N0, rfl⟩
    · refine Gl.pre (B := s₁.setTop (mkF m 17 #[.val (.int p1)] [(.int (2 : Int32)), (.int p1)])) (fun _ k => XS.icmpYes X0.here hx rfl (pc0 := 8) (pc' := 15) rfl (hb hby d47_8) rfl (feq hc8_2).2 (by decide) (by decide) (XS.iloadN X0.here hx rfl (hb hby d47_15) rfl (XS.iconst X0.here hx rfl (hb hby d47_16) k))) ?_
      by_cases hc17_3 : p1 = (2 : Int32)
      · refine Gl.pre (B := s₁.setTop (mkF m 23 #[.val (.int p1)] [(.long (100 : Int64))])) (fun _ k => XS.icmpNo X0.here hx rfl (hb hby d47_17) rfl (teq hc17_3).2 (X0.ldc2Long hx hown (mvT hZ (wq hw 272 rfl)) (g := (mkF m 20 #[.val (.int p1)] [])) rfl (hb hby d47_20) _ k)) ?_
        refine Gl.out X0 (v := some (.long (100 : Int64))) (fun h => by rw [hret] at h; cases h) hlk (fun fs hr => retOut X0 hx hret rfl (Or.inr (Or.inl ⟨rfl, rfl, _, rfl⟩)) (hb hby d47_23) hr) ?_ (by decide) (by decide)
        show Q_lawPow Z _ _ h0 n0 _ s₁.heap _
        rw [e0]
        subst hp1
        have qq : ∀ e : Fin 10, (decide ((0 : Int32) < (Int32.ofNat e.val)) && ((! decide ((Int32.ofNat e.val) = (1 : Int32))) && (decide ((Int32.ofNat e.val) = (2 : Int32)) && (true)))) = true → (100 : Int64) = Int64.ofNat (10 ^ e.val) := by decide +kernel
        exact ⟨congrArg (fun z => some (Value.long z)) (qq ⟨e9, Nat.lt_succ_of_le he⟩ (own_band (decide_eq_true hc1_1) (own_band (own_bneg hc8_2) (own_band (decide_eq_true hc17_3) rfl)))), N0, rfl⟩
      · refine Gl.pre (B := s₁.setTop (mkF m 26 #[.val (.int p1)] [(.int (3 : Int32)), (.int p1)])) (fun _ k => XS.icmpYes X0.here hx rfl (pc0 := 17) (pc' := 24) rfl (hb hby d47_17) rfl (feq hc17_3).2 (by decide) (by decide) (XS.iloadN X0.here hx rfl (hb hby d47_24) rfl (XS.iconst X0.here hx rfl (hb hby d47_25) k))) ?_
        by_cases hc26_4 : p1 = (3 : Int32)
        · refine Gl.pre (B := s₁.setTop (mkF m 32 #[.val (.int p1)] [(.long (1000 : Int64))])) (fun _ k => XS.icmpNo X0.here hx rfl (hb hby d47_26) rfl (teq hc26_4).2 (X0.ldc2Long hx hown (mvT hZ (wq hw 273 rfl)) (g := (mkF m 29 #[.val (.int p1)] [])) rfl (hb hby d47_29) _ k)) ?_
          refine Gl.out X0 (v := some (.long (1000 : Int64))) (fun h => by rw [hret] at h; cases h) hlk (fun fs hr => retOut X0 hx hret rfl (Or.inr (Or.inl ⟨rfl, rfl, _, rfl⟩)) (hb hby d47_32) hr) ?_ (by decide) (by decide)
          show Q_lawPow Z _ _ h0 n0 _ s₁.heap _
          rw [e0]
          subst hp1
          have qq : ∀ e : Fin 10, (decide ((0 : Int32) < (Int32.ofNat e.val)) && ((! decide ((Int32.ofNat e.val) = (1 : Int32))) && ((! decide ((Int32.ofNat e.val) = (2 : Int32))) && (decide ((Int32.ofNat e.val) = (3 : Int32)) && (true))))) = true → (1000 : Int64) = Int64.ofNat (10 ^ e.val) := by decide +kernel
          exact ⟨congrArg (fun z => some (Value.long z)) (qq ⟨e9, Nat.lt_succ_of_le he⟩ (own_band (decide_eq_true hc1_1) (own_band (own_bneg hc8_2) (own_band (own_bneg hc17_3) (own_band (decide_eq_true hc26_4) rfl))))), N0, rfl⟩
        · refine Gl.pre (B := s₁.setTop (mkF m 35 #[.val (.int p1)] [(.int (4 : Int32)), (.int p1)])) (fun _ k => XS.icmpYes X0.here hx rfl (pc0 := 26) (pc' := 33) rfl (hb hby d47_26) rfl (feq hc26_4).2 (by decide) (by decide) (XS.iloadN X0.here hx rfl (hb hby d47_33) rfl (XS.iconst X0.here hx rfl (hb hby d47_34) k))) ?_
          by_cases hc35_5 : p1 = (4 : Int32)
          · refine Gl.pre (B := s₁.setTop (mkF m 41 #[.val (.int p1)] [(.long (10000 : Int64))])) (fun _ k => XS.icmpNo X0.here hx rfl (hb hby d47_35) rfl (teq hc35_5).2 (X0.ldc2Long hx hown (mvT hZ (wq hw 274 rfl)) (g := (mkF m 38 #[.val (.int p1)] [])) rfl (hb hby d47_38) _ k)) ?_
            refine Gl.out X0 (v := some (.long (10000 : Int64))) (fun h => by rw [hret] at h; cases h) hlk (fun fs hr => retOut X0 hx hret rfl (Or.inr (Or.inl ⟨rfl, rfl, _, rfl⟩)) (hb hby d47_41) hr) ?_ (by decide) (by decide)
            show Q_lawPow Z _ _ h0 n0 _ s₁.heap _
            rw [e0]
            subst hp1
            have qq : ∀ e : Fin 10, (decide ((0 : Int32) < (Int32.ofNat e.val)) && ((! decide ((Int32.ofNat e.val) = (1 : Int32))) && ((! decide ((Int32.ofNat e.val) = (2 : Int32))) && ((! decide ((Int32.ofNat e.val) = (3 : Int32))) && (decide ((Int32.ofNat e.val) = (4 : Int32)) && (true)))))) = true → (10000 : Int64) = Int64.ofNat (10 ^ e.val) := by decide +kernel
            exact ⟨congrArg (fun z => some (Value.long z)) (qq ⟨e9, Nat.lt_succ_of_le he⟩ (own_band (decide_eq_true hc1_1) (own_band (own_bneg hc8_2) (own_band (own_bneg hc17_3) (own_band (own_bneg hc26_4) (own_band (decide_eq_true hc35_5) rfl)))))), N0, rfl⟩
          · refine Gl.pre (B := s₁.setTop (mkF m 44 #[.val (.int p1)] [(.int (5 : Int32)), (.int p1)])) (fun _ k => XS.icmpYes X0.here hx rfl (pc0 := 35) (pc' := 42) rfl (hb hby d47_35) rfl (feq hc35_5).2 (by decide) (by decide) (XS.iloadN X0.here hx rfl (hb hby d47_42) rfl (XS.iconst X0.here hx rfl (hb hby d47_43) k))) ?_
            by_cases hc44_6 : p1 = (5 : Int32)
            · refine Gl.pre (B := s₁.setTop (mkF m 50 #[.val (.int p1)] [(.long (100000 : Int64))])) (fun _ k => XS.icmpNo X0.here hx rfl (hb hby d47_44) rfl (teq hc44_6).2 (X0.ldc2Long hx hown (mvT hZ (wq hw 275 rfl)) (g := (mkF m 47 #[.val (.int p1)] [])) rfl (hb hby d47_47) _ k)) ?_
              refine Gl.out X0 (v := some (.long (100000 : Int64))) (fun h => by rw [hret] at h; cases h) hlk (fun fs hr => retOut X0 hx hret rfl (Or.inr (Or.inl ⟨rfl, rfl, _, rfl⟩)) (hb hby d47_50) hr) ?_ (by decide) (by decide)
              show Q_lawPow Z _ _ h0 n0 _ s₁.heap _
              rw [e0]
              subst hp1
              have qq : ∀ e : Fin 10, (decide ((0 : Int32) < (Int32.ofNat e.val)) && ((! decide ((Int32.ofNat e.val) = (1 : Int32))) && ((! decide ((Int32.ofNat e.val) = (2 : Int32))) && ((! decide ((Int32.ofNat e.val) = (3 : Int32))) && ((! decide ((Int32.ofNat e.val) = (4 : Int32))) && (decide ((Int32.ofNat e.val) = (5 : Int32)) && (true))))))) = true → (100000 : Int64) = Int64.ofNat (10 ^ e.val) := by decide +kernel
              exact ⟨congrArg (fun z => some (Value.long z)) (qq ⟨e9, Nat.lt_succ_of_le he⟩ (own_band (decide_eq_true hc1_1) (own_band (own_bneg hc8_2) (own_band (own_bneg hc17_3) (own_band (own_bneg hc26_4) (own_band (own_bneg hc35_5) (own_band (decide_eq_true hc44_6) rfl))))))), N0, rfl⟩
            · refine Gl.pre (B := s₁.setTop (mkF m 54 #[.val (.int p1)] [(.int (6 : Int32)), (.int p1)])) (fun _ k => XS.icmpYes X0.here hx rfl (pc0 := 44) (pc' := 51) rfl (hb hby d47_44) rfl (feq hc44_6).2 (by decide) (by decide) (XS.iloadN X0.here hx rfl (hb hby d47_51) rfl (XS.bipush X0.here hx rfl (hb hby d47_52) k))) ?_
              by_cases hc54_7 : p1 = (6 : Int32)
              · refine Gl.pre (B := s₁.setTop (mkF m 60 #[.val (.int p1)] [(.long (1000000 : Int64))])) (fun _ k => XS.icmpNo X0.here hx rfl (hb hby d47_54) rfl (teq hc54_7).2 (X0.ldc2Long hx hown (mvT hZ (wq hw 276 rfl)) (g := (mkF m 57 #[.val (.int p1)] [])) rfl (hb hby d47_57) _ k)) ?_
                refine Gl.out X0 (v := some (.long (1000000 : Int64))) (fun h => by rw [hret] at h; cases h) hlk (fun fs hr => retOut X0 hx hret rfl (Or.inr (Or.inl ⟨rfl, rfl, _, rfl⟩)) (hb hby d47_60) hr) ?_ (by decide) (by decide)
                show Q_lawPow Z _ _ h0 n0 _ s₁.heap _
                rw [e0]
                subst hp1
                have qq : ∀ e : Fin 10, (decide ((0 : Int32) < (Int32.ofNat e.val)) && ((! decide ((Int32.ofNat e.val) = (1 : Int32))) && ((! decide ((Int32.ofNat e.val) = (2 : Int32))) && ((! decide ((Int32.ofNat e.val) = (3 : Int32))) && ((! decide ((Int32.ofNat e.val) = (4 : Int32))) && ((! decide ((Int32.ofNat e.val) = (5 : Int32))) && (decide ((Int32.ofNat e.val) = (6 : Int32)) && (true)))))))) = true → (1000000 : Int64) = Int64.ofNat (10 ^ e.val) := by decide +kernel
                exact ⟨congrArg (fun z => some (Value.long z)) (qq ⟨e9, Nat.lt_succ_of_le he⟩ (own_band (decide_eq_true hc1_1) (own_band (own_bneg hc8_2) (own_band (own_bneg hc17_3) (own_band (own_bneg hc26_4) (own_band (own_bneg hc35_5) (own_band (own_bneg hc44_6) (own_band (decide_eq_true hc54_7) rfl)))))))), N0, rfl⟩
              · refine Gl.pre (B := s₁.setTop (mkF m 64 #[.val (.int p1)] [(.int (7 : Int32)), (.int p1)])) (fun _ k => XS.icmpYes X0.here hx rfl (pc0 := 54) (pc' := 61) rfl (hb hby d47_54) rfl (feq hc54_7).2 (by decide) (by decide) (XS.iloadN X0.here hx rfl (hb hby d47_61) rfl (XS.bipush X0.here hx rfl (hb hby d47_62) k))) ?_
                by_cases hc64_8 : p1 = (7 : Int32)
                · refine Gl.pre (B := s₁.setTop (mkF m 70 #[.val (.int p1)] [(.long (10000000 : Int64))])) (fun _ k => XS.icmpNo X0.here hx rfl (hb hby d47_64) rfl (teq hc64_8).2 (X0.ldc2Long hx hown (mvT hZ (wq hw 277 rfl)) (g := (mkF m 67 #[.val (.int p1)] [])) rfl (hb hby d47_67) _ k)) ?_
                  refine Gl.out X0 (v := some (.long (10000000 : Int64))) (fun h => by rw [hret] at h; cases h) hlk (fun fs hr => retOut X0 hx hret rfl (Or.inr (Or.inl ⟨rfl, rfl, _, rfl⟩)) (hb hby d47_70) hr) ?_ (by decide) (by decide)
                  show Q_lawPow Z _ _ h0 n0 _ s₁.heap _
                  rw [e0]
                  subst hp1
                  have qq : ∀ e : Fin 10, (decide ((0 : Int32) < (Int32.ofNat e.val)) && ((! decide ((Int32.ofNat e.val) = (1 : Int32))) && ((! decide ((Int32.ofNat e.val) = (2 : Int32))) && ((! decide ((Int32.ofNat e.val) = (3 : Int32))) && ((! decide ((Int32.ofNat e.val) = (4 : Int32))) && ((! decide ((Int32.ofNat e.val) = (5 : Int32))) && ((! decide ((Int32.ofNat e.val) = (6 : Int32))) && (decide ((Int32.ofNat e.val) = (7 : Int32)) && (true))))))))) = true → (10000000 : Int64) = Int64.ofNat (10 ^ e.val) := by decide +kernel
                  exact ⟨congrArg (fun z => some (Value.long z)) (qq ⟨e9, Nat.lt_succ_of_le he⟩ (own_band (decide_eq_true hc1_1) (own_band (own_bneg hc8_2) (own_band (own_bneg hc17_3) (own_band (own_bneg hc26_4) (own_band (own_bneg hc35_5) (own_band (own_bneg hc44_6) (own_band (own_bneg hc54_7) (own_band (decide_eq_true hc64_8) rfl))))))))), N0, rfl⟩
                · refine Gl.pre (B := s₁.setTop (mkF m 74 #[.val (.int p1)] [(.int (8 : Int32)), (.int p1)])) (fun _ k => XS.icmpYes X0.here hx rfl (pc0 := 64) (pc' := 71) rfl (hb hby d47_64) rfl (feq hc64_8).2 (by decide) (by decide) (XS.iloadN X0.here hx rfl (hb hby d47_71) rfl (XS.bipush X0.here hx rfl (hb hby d47_72) k))) ?_
                  by_cases hc74_9 : p1 = (8 : Int32)
                  · refine Gl.pre (B := s₁.setTop (mkF m 80 #[.val (.int p1)] [(.long (100000000 : Int64))])) (fun _ k => XS.icmpNo X0.here hx rfl (hb hby d47_74) rfl (teq hc74_9).2 (X0.ldc2Long hx hown (mvT hZ (wq hw 278 rfl)) (g := (mkF m 77 #[.val (.int p1)] [])) rfl (hb hby d47_77) _ k)) ?_
                    refine Gl.out X0 (v := some (.long (100000000 : Int64))) (fun h => by rw [hret] at h; cases h) hlk (fun fs hr => retOut X0 hx hret rfl (Or.inr (Or.inl ⟨rfl, rfl, _, rfl⟩)) (hb hby d47_80) hr) ?_ (by decide) (by decide)
                    show Q_lawPow Z _ _ h0 n0 _ s₁.heap _
                    rw [e0]
                    subst hp1
                    have qq : ∀ e : Fin 10, (decide ((0 : Int32) < (Int32.ofNat e.val)) && ((! decide ((Int32.ofNat e.val) = (1 : Int32))) && ((! decide ((Int32.ofNat e.val) = (2 : Int32))) && ((! decide ((Int32.ofNat e.val) = (3 : Int32))) && ((! decide ((Int32.ofNat e.val) = (4 : Int32))) && ((! decide ((Int32.ofNat e.val) = (5 : Int32))) && ((! decide ((Int32.ofNat e.val) = (6 : Int32))) && ((! decide ((Int32.ofNat e.val) = (7 : Int32))) && (decide ((Int32.ofNat e.val) = (8 : Int32)) && (true)))))))))) = true → (100000000 : Int64) = Int64.ofNat (10 ^ e.val) := by decide +kernel
                    exact ⟨congrArg (fun z => some (Value.long z)) (qq ⟨e9, Nat.lt_succ_of_le he⟩ (own_band (decide_eq_true hc1_1) (own_band (own_bneg hc8_2) (own_band (own_bneg hc17_3) (own_band (own_bneg hc26_4) (own_band (own_bneg hc35_5) (own_band (own_bneg hc44_6) (own_band (own_bneg hc54_7) (own_band (own_bneg hc64_8) (own_band (decide_eq_true hc74_9) rfl)))))))))), N0, rfl⟩
                  · refine Gl.pre (B := s₁.setTop (mkF m 84 #[.val (.int p1)] [(.long (1000000000 : Int64))])) (fun _ k => XS.icmpYes X0.here hx rfl (pc0 := 74) (pc' := 81) rfl (hb hby d47_74) rfl (feq hc74_9).2 (by decide) (by decide) (X0.ldc2Long hx hown (mvT hZ (wq hw 279 rfl)) (g := (mkF m 81 #[.val (.int p1)] [])) rfl (hb hby d47_81) _ k)) ?_
                    refine Gl.out X0 (v := some (.long (1000000000 : Int64))) (fun h => by rw [hret] at h; cases h) hlk (fun fs hr => retOut X0 hx hret rfl (Or.inr (Or.inl ⟨rfl, rfl, _, rfl⟩)) (hb hby d47_84) hr) ?_ (by decide) (by decide)
                    show Q_lawPow Z _ _ h0 n0 _ s₁.heap _
                    rw [e0]
                    subst hp1
                    have qq : ∀ e : Fin 10, (decide ((0 : Int32) < (Int32.ofNat e.val)) && ((! decide ((Int32.ofNat e.val) = (1 : Int32))) && ((! decide ((Int32.ofNat e.val) = (2 : Int32))) && ((! decide ((Int32.ofNat e.val) = (3 : Int32))) && ((! decide ((Int32.ofNat e.val) = (4 : Int32))) && ((! decide ((Int32.ofNat e.val) = (5 : Int32))) && ((! decide ((Int32.ofNat e.val) = (6 : Int32))) && ((! decide ((Int32.ofNat e.val) = (7 : Int32))) && ((! decide ((Int32.ofNat e.val) = (8 : Int32))) && (true)))))))))) = true → (1000000000 : Int64) = Int64.ofNat (10 ^ e.val) := by decide +kernel
                    exact ⟨congrArg (fun z => some (Value.long z)) (qq ⟨e9, Nat.lt_succ_of_le he⟩ (own_band (decide_eq_true hc1_1) (own_band (own_bneg hc8_2) (own_band (own_bneg hc17_3) (own_band (own_bneg hc26_4) (own_band (own_bneg hc35_5) (own_band (own_bneg hc44_6) (own_band (own_bneg hc54_7) (own_band (own_bneg hc64_8) (own_band (own_bneg hc74_9) rfl)))))))))), N0, rfl⟩
  · refine Gl.pre (B := s₁.setTop (mkF m 5 #[.val (.int p1)] [(.long (1 : Int64))])) (fun _ k => XS.ifNo X0.here hx rfl (hb hby d47_1) rfl ((if0 _ _).trans (flt hc1_1).2.2.1) (XS.lconst X0.here hx rfl (hb hby d47_4) k)) ?_
    refine Gl.out X0 (v := some (.long (1 : Int64))) (fun h => by rw [hret] at h; cases h) hlk (fun fs hr => retOut X0 hx hret rfl (Or.inr (Or.inl ⟨rfl, rfl, _, rfl⟩)) (hb hby d47_5) hr) ?_ (by decide) (by decide)
    show Q_lawPow Z _ _ h0 n0 _ s₁.heap _
    rw [e0]
    subst hp1
    have qq : ∀ e : Fin 10, ((! decide ((0 : Int32) < (Int32.ofNat e.val))) && (true)) = true → (1 : Int64) = Int64.ofNat (10 ^ e.val) := by decide +kernel
    exact ⟨congrArg (fun z => some (Value.long z)) (qq ⟨e9, Nat.lt_succ_of_le he⟩ (own_band (own_bneg hc1_1) rfl)), N0, rfl⟩
theorem d39_0 : decode method_4_code 0 = .ok (.lload_n 0, 1) := by decide +kernel
theorem d39_1 : decode method_4_code 1 = .ok (.ldc2_w 51, 3) := by decide +kernel
theorem d39_4 : decode method_4_code 4 = .ok (.lcmp, 1) := by decide +kernel
theorem d39_5 : decode method_4_code 5 = .ok (.ifCond .ge 5, 3) := by decide +kernel
theorem d39_8 : decode method_4_code 8 = .ok (.iconst 1, 1) := by decide +kernel
theorem d39_9 : decode method_4_code 9 = .ok (.ireturn, 1) := by decide +kernel
theorem d39_10 : decode method_4_code 10 = .ok (.lload_n 0, 1) := by decide +kernel
theorem d39_11 : decode method_4_code 11 = .ok (.ldc2_w 53, 3) := by decide +kernel
theorem d39_14 : decode method_4_code 14 = .ok (.lcmp, 1) := by decide +kernel
theorem d39_15 : decode method_4_code 15 = .ok (.ifCond .ge 5, 3) := by decide +kernel
theorem d39_18 : decode method_4_code 18 = .ok (.iconst 2, 1) := by decide +kernel
theorem d39_19 : decode method_4_code 19 = .ok (.ireturn, 1) := by decide +kernel
theorem d39_20 : decode method_4_code 20 = .ok (.lload_n 0, 1) := by decide +kernel
theorem d39_21 : decode method_4_code 21 = .ok (.ldc2_w 55, 3) := by decide +kernel
theorem d39_24 : decode method_4_code 24 = .ok (.lcmp, 1) := by decide +kernel
theorem d39_25 : decode method_4_code 25 = .ok (.ifCond .ge 5, 3) := by decide +kernel
theorem d39_28 : decode method_4_code 28 = .ok (.iconst 3, 1) := by decide +kernel
theorem d39_29 : decode method_4_code 29 = .ok (.ireturn, 1) := by decide +kernel
theorem d39_30 : decode method_4_code 30 = .ok (.lload_n 0, 1) := by decide +kernel
theorem d39_31 : decode method_4_code 31 = .ok (.ldc2_w 57, 3) := by decide +kernel
theorem d39_34 : decode method_4_code 34 = .ok (.lcmp, 1) := by decide +kernel
theorem d39_35 : decode method_4_code 35 = .ok (.ifCond .ge 5, 3) := by decide +kernel
theorem d39_38 : decode method_4_code 38 = .ok (.iconst 4, 1) := by decide +kernel
theorem d39_39 : decode method_4_code 39 = .ok (.ireturn, 1) := by decide +kernel
theorem d39_40 : decode method_4_code 40 = .ok (.lload_n 0, 1) := by decide +kernel
theorem d39_41 : decode method_4_code 41 = .ok (.ldc2_w 59, 3) := by decide +kernel
theorem d39_44 : decode method_4_code 44 = .ok (.lcmp, 1) := by decide +kernel
theorem d39_45 : decode method_4_code 45 = .ok (.ifCond .ge 5, 3) := by decide +kernel
theorem d39_48 : decode method_4_code 48 = .ok (.iconst 5, 1) := by decide +kernel
theorem d39_49 : decode method_4_code 49 = .ok (.ireturn, 1) := by decide +kernel
theorem d39_50 : decode method_4_code 50 = .ok (.lload_n 0, 1) := by decide +kernel
theorem d39_51 : decode method_4_code 51 = .ok (.ldc2_w 61, 3) := by decide +kernel
theorem d39_54 : decode method_4_code 54 = .ok (.lcmp, 1) := by decide +kernel
theorem d39_55 : decode method_4_code 55 = .ok (.ifCond .ge 6, 3) := by decide +kernel
theorem d39_58 : decode method_4_code 58 = .ok (.bipush 6, 2) := by decide +kernel
theorem d39_60 : decode method_4_code 60 = .ok (.ireturn, 1) := by decide +kernel
theorem d39_61 : decode method_4_code 61 = .ok (.lload_n 0, 1) := by decide +kernel
theorem d39_62 : decode method_4_code 62 = .ok (.ldc2_w 63, 3) := by decide +kernel
theorem d39_65 : decode method_4_code 65 = .ok (.lcmp, 1) := by decide +kernel
theorem d39_66 : decode method_4_code 66 = .ok (.ifCond .ge 6, 3) := by decide +kernel
theorem d39_69 : decode method_4_code 69 = .ok (.bipush 7, 2) := by decide +kernel
theorem d39_71 : decode method_4_code 71 = .ok (.ireturn, 1) := by decide +kernel
theorem d39_72 : decode method_4_code 72 = .ok (.lload_n 0, 1) := by decide +kernel
theorem d39_73 : decode method_4_code 73 = .ok (.ldc2_w 65, 3) := by decide +kernel
theorem d39_76 : decode method_4_code 76 = .ok (.lcmp, 1) := by decide +kernel
theorem d39_77 : decode method_4_code 77 = .ok (.ifCond .ge 6, 3) := by decide +kernel
theorem d39_80 : decode method_4_code 80 = .ok (.bipush 8, 2) := by decide +kernel
theorem d39_82 : decode method_4_code 82 = .ok (.ireturn, 1) := by decide +kernel
theorem d39_83 : decode method_4_code 83 = .ok (.lload_n 0, 1) := by decide +kernel
theorem d39_84 : decode method_4_code 84 = .ok (.ldc2_w 67, 3) := by decide +kernel
theorem d39_87 : decode method_4_code 87 = .ok (.lcmp, 1) := by decide +kernel
theorem d39_88 : decode method_4_code 88 = .ok (.ifCond .ge 6, 3) := by decide +kernel
theorem d39_91 : decode method_4_code 91 = .ok (.bipush 9, 2) := by decide +kernel
theorem d39_93 : decode method_4_code 93 = .ok (.ireturn, 1) := by decide +kernel
theorem d39_94 : decode method_4_code 94 = .ok (.bipush 10, 2) := by decide +kernel
theorem d39_96 : decode method_4_code 96 = .ok (.ireturn, 1) := by decide +kernel
theorem ef_lawDig (m : MethodId) (x0 : Int64) : entryFrame m #[(.long x0)] 2 = mkF m 0 #[.val (.long x0), .second] [] := by first | (simp [entryFrame, mkF, argsToLocals, Value.category]; done) | rfl
def Q_lawDig (Z : State) (p1 : Int64) (Nn : Nat) (h0 : Heap) (n0 : Nat) (v : Option Value) (h : Heap) (L : List Loc) : Prop := v = some (.int (Int32.ofNat (SBG.digits Nn))) ∧ Fr n0 L ∧ (h = h0)
set_option maxRecDepth 65536 in
set_option maxHeartbeats 40000000 in
theorem lawDig (l : Launch) (Z : State) (a0 : Array Value) (hw : ∀ d ∈ tables_1, d.before a0 Z = true) (ws : List Jvm.Cond) (p1 : Int64) (Nn : Nat) (h0 : Heap) (n0 : Nat) (Z0 : n0 ≤ h0.size) (hp1 : p1 = Int64.ofNat Nn) (hN : Nn ≤ 2147483648) :
    MetFree l (⟨"com/example/bourse/bourse/exchange/BoundedFileTooLongPinLaw", "digits", "(J)I"⟩ : MethodName) (head1 (Jvm.Cond.code (⟨"com/example/bourse/bourse/exchange/BoundedFileTooLongPinLaw", "digits", "(J)I"⟩ : MethodName) method_4_code 2 (some .int) :: ws) ({ frames := 0, cells := 0, slots := 0, locals := 0 } : Room)) (fun a U => a = #[(.long p1)] ∧ Z.Warmed39 U.vm ∧ U.heap = h0) (fun _ _ _ _ _ => True) (fun _ U o U' => ∃ v L, o = .returned v ∧ Q_lawDig Z p1 Nn h0 n0 v U'.heap L ∧ FrameEnd U o U' L ({ frames := 0, cells := 0, slots := 0, locals := 0 } : Room).cells ({ frames := 0, cells := 0, slots := 0, locals := 0 } : Room).slots) := by
  refine MetFree.of_bodySF (plainFor_of_name pn_com_example_bourse_bourse_exchange_BoundedFileTooLongPinLaw) hisR ?_
  intro p e s m args below meth c s₁ Bd hml0 hP hK
  obtain ⟨rfl, hZ, hh⟩ := hP
  have hx := Bd.exec
  have hby := Bd.bytes
  have hml : c.maxLocals = 2 := hml0
  have hown : s.vm.findClass "com/example/bourse/bourse/exchange/BoundedFileTooLongPinLaw" = some m.cls := findClass_of_methodNamed Bd.named
  have hnm := (name_of_methodNamed Bd.named Bd.method).1
  have hret : meth.sig.returnType = (some .int) := Bd.returns
  have hlk : meth.locks = false := BodyLoose.notSynchronized Bd
  have X0 : Stand p l e ({ frames := 0, cells := 0, slots := 0, locals := 0 } : Room) s m #[(.long p1)] below meth c s₁ [] 0 0 := Stand.of_body Bd
  have e0 : s₁.heap = h0 := by rw [← hh, Bd.state]; rfl
  have N0 := Fr.nil n0
  have K0 : Keep h0 h0 [] := Keep.refl h0 _
  show Gl p.tables e below s (Q_lawDig Z p1 Nn h0 n0) 0 0 _
  refine Gl.pre (B := s₁.setTop (mkF m 0 #[.val (.long p1), .second] [])) (fun _ k => castTop (ef_lawDig m p1) k) ?_
  refine Gl.pre (B := s₁.setTop (mkF m 5 #[.val (.long p1), .second] [(.int (lcmpW p1 (10 : Int64)))])) (fun _ k => XS.lloadN X0.here hx rfl (hb hby d39_0) rfl (X0.ldc2Long hx hown (mvT hZ (wq hw 236 rfl)) (g := (mkF m 1 #[.val (.long p1), .second] [(.long p1)])) rfl (hb hby d39_1) _ (XS.lcmp X0.here hx rfl (hb hby d39_4) rfl k))) ?_
  by_cases hc5_1 : (lcmpW p1 (10 : Int64)) < (0 : Int32)
  · refine Gl.pre (B := s₁.setTop (mkF m 9 #[.val (.long p1), .second] [(.int (1 : Int32))])) (fun _ k => XS.ifNo X0.here hx rfl (hb hby d39_5) rfl ((if0 _ _).trans (tlt hc5_1).2.1) (XS.iconst X0.here hx rfl (hb hby d39_8) k)) ?_
    refine Gl.out X0 (v := some (.int (1 : Int32))) (fun h => by rw [hret] at h; cases h) hlk (fun fs hr => retOut X0 hx hret rfl (Or.inl ⟨rfl, Or.inl rfl, _, rfl⟩) (hb hby d39_9) hr) ?_ (by decide) (by decide)
    show Q_lawDig Z _ _ h0 n0 _ s₁.heap _
    rw [e0]
    subst hp1
    have gd10 : Nn < 10 := (own_lw (M := 10) hN (by decide)).mp hc5_1
    refine ⟨?_, N0, rfl⟩
    rw [own_digits, if_pos gd10]
    rfl
  · refine Gl.pre (B := s₁.setTop (mkF m 15 #[.val (.long p1), .second] [(.int (lcmpW p1 (100 : Int64)))])) (fun _ k => XS.ifYes X0.here hx rfl (pc0 := 5) (pc' := 10) rfl (hb hby d39_5) rfl ((if0 _ _).trans (flt hc5_1).2.1) (by decide) (by decide) (XS.lloadN X0.here hx rfl (hb hby d39_10) rfl (X0.ldc2Long hx hown (mvT hZ (wq hw 272 rfl)) (g := (mkF m 11 #[.val (.long p1), .second] [(.long p1)])) rfl (hb hby d39_11) _ (XS.lcmp X0.here hx rfl (hb hby d39_14) rfl k)))) ?_
    by_cases hc15_2 : (lcmpW p1 (100 : Int64)) < (0 : Int32)
    · refine Gl.pre (B := s₁.setTop (mkF m 19 #[.val (.long p1), .second] [(.int (2 : Int32))])) (fun _ k => XS.ifNo X0.here hx rfl (hb hby d39_15) rfl ((if0 _ _).trans (tlt hc15_2).2.1) (XS.iconst X0.here hx rfl (hb hby d39_18) k)) ?_
      refine Gl.out X0 (v := some (.int (2 : Int32))) (fun h => by rw [hret] at h; cases h) hlk (fun fs hr => retOut X0 hx hret rfl (Or.inl ⟨rfl, Or.inl rfl, _, rfl⟩) (hb hby d39_19) hr) ?_ (by decide) (by decide)
      show Q_lawDig Z _ _ h0 n0 _ s₁.heap _
      rw [e0]
      subst hp1
      have gd10 : ¬ Nn < 10 := fun z => hc5_1 ((own_lw (M := 10) hN (by decide)).mpr z)
      have gd100 : Nn < 100 := (own_lw (M := 100) hN (by decide)).mp hc15_2
      refine ⟨?_, N0, rfl⟩
      rw [own_digits, if_neg gd10, if_pos gd100]
      rfl
    · refine Gl.pre (B := s₁.setTop (mkF m 25 #[.val (.long p1), .second] [(.int (lcmpW p1 (1000 : Int64)))])) (fun _ k => XS.ifYes X0.here hx rfl (pc0 := 15) (pc' := 20) rfl (hb hby d39_15) rfl ((if0 _ _).trans (flt hc15_2).2.1) (by decide) (by decide) (XS.lloadN X0.here hx rfl (hb hby d39_20) rfl (X0.ldc2Long hx hown (mvT hZ (wq hw 273 rfl)) (g := (mkF m 21 #[.val (.long p1), .second] [(.long p1)])) rfl (hb hby d39_21) _ (XS.lcmp X0.here hx rfl (hb hby d39_24) rfl k)))) ?_
      by_cases hc25_3 : (lcmpW p1 (1000 : Int64)) < (0 : Int32)
      · refine Gl.pre (B := s₁.setTop (mkF m 29 #[.val (.long p1), .second] [(.int (3 : Int32))])) (fun _ k => XS.ifNo X0.here hx rfl (hb hby d39_25) rfl ((if0 _ _).trans (tlt hc25_3).2.1) (XS.iconst X0.here hx rfl (hb hby d39_28) k)) ?_
        refine Gl.out X0 (v := some (.int (3 : Int32))) (fun h => by rw [hret] at h; cases h) hlk (fun fs hr => retOut X0 hx hret rfl (Or.inl ⟨rfl, Or.inl rfl, _, rfl⟩) (hb hby d39_29) hr) ?_ (by decide) (by decide)
        show Q_lawDig Z _ _ h0 n0 _ s₁.heap _
        rw [e0]
        subst hp1
        have gd10 : ¬ Nn < 10 := fun z => hc5_1 ((own_lw (M := 10) hN (by decide)).mpr z)
        have gd100 : ¬ Nn < 100 := fun z => hc15_2 ((own_lw (M := 100) hN (by decide)).mpr z)
        have gd1000 : Nn < 1000 := (own_lw (M := 1000) hN (by decide)).mp hc25_3
        refine ⟨?_, N0, rfl⟩
        rw [own_digits, if_neg gd10, if_neg gd100, if_pos gd1000]
        rfl
      · refine Gl.pre (B := s₁.setTop (mkF m 35 #[.val (.long p1), .second] [(.int (lcmpW p1 (10000 : Int64)))])) (fun _ k => XS.ifYes X0.here hx rfl (pc0 := 25) (pc' := 30) rfl (hb hby d39_25) rfl ((if0 _ _).trans (flt hc25_3).2.1) (by decide) (by decide) (XS.lloadN X0.here hx rfl (hb hby d39_30) rfl (X0.ldc2Long hx hown (mvT hZ (wq hw 274 rfl)) (g := (mkF m 31 #[.val (.long p1), .second] [(.long p1)])) rfl (hb hby d39_31) _ (XS.lcmp X0.here hx rfl (hb hby d39_34) rfl k)))) ?_
        by_cases hc35_4 : (lcmpW p1 (10000 : Int64)) < (0 : Int32)
        · refine Gl.pre (B := s₁.setTop (mkF m 39 #[.val (.long p1), .second] [(.int (4 : Int32))])) (fun _ k => XS.ifNo X0.here hx rfl (hb hby d39_35) rfl ((if0 _ _).trans (tlt hc35_4).2.1) (XS.iconst X0.here hx rfl (hb hby d39_38) k)) ?_
          refine Gl.out X0 (v := some (.int (4 : Int32))) (fun h => by rw [hret] at h; cases h) hlk (fun fs hr => retOut X0 hx hret rfl (Or.inl ⟨rfl, Or.inl rfl, _, rfl⟩) (hb hby d39_39) hr) ?_ (by decide) (by decide)
          show Q_lawDig Z _ _ h0 n0 _ s₁.heap _
          rw [e0]
          subst hp1
          have gd10 : ¬ Nn < 10 := fun z => hc5_1 ((own_lw (M := 10) hN (by decide)).mpr z)
          have gd100 : ¬ Nn < 100 := fun z => hc15_2 ((own_lw (M := 100) hN (by decide)).mpr z)
          have gd1000 : ¬ Nn < 1000 := fun z => hc25_3 ((own_lw (M := 1000) hN (by decide)).mpr z)
          have gd10000 : Nn < 10000 := (own_lw (M := 10000) hN (by decide)).mp hc35_4
          refine ⟨?_, N0, rfl⟩
          rw [own_digits, if_neg gd10, if_neg gd100, if_neg gd1000, if_pos gd10000]
          rfl
        · refine Gl.pre (B := s₁.setTop (mkF m 45 #[.val (.long p1), .second] [(.int (lcmpW p1 (100000 : Int64)))])) (fun _ k => XS.ifYes X0.here hx rfl (pc0 := 35) (pc' := 40) rfl (hb hby d39_35) rfl ((if0 _ _).trans (flt hc35_4).2.1) (by decide) (by decide) (XS.lloadN X0.here hx rfl (hb hby d39_40) rfl (X0.ldc2Long hx hown (mvT hZ (wq hw 275 rfl)) (g := (mkF m 41 #[.val (.long p1), .second] [(.long p1)])) rfl (hb hby d39_41) _ (XS.lcmp X0.here hx rfl (hb hby d39_44) rfl k)))) ?_
          by_cases hc45_5 : (lcmpW p1 (100000 : Int64)) < (0 : Int32)
          · refine Gl.pre (B := s₁.setTop (mkF m 49 #[.val (.long p1), .second] [(.int (5 : Int32))])) (fun _ k => XS.ifNo X0.here hx rfl (hb hby d39_45) rfl ((if0 _ _).trans (tlt hc45_5).2.1) (XS.iconst X0.here hx rfl (hb hby d39_48) k)) ?_
            refine Gl.out X0 (v := some (.int (5 : Int32))) (fun h => by rw [hret] at h; cases h) hlk (fun fs hr => retOut X0 hx hret rfl (Or.inl ⟨rfl, Or.inl rfl, _, rfl⟩) (hb hby d39_49) hr) ?_ (by decide) (by decide)
            show Q_lawDig Z _ _ h0 n0 _ s₁.heap _
            rw [e0]
            subst hp1
            have gd10 : ¬ Nn < 10 := fun z => hc5_1 ((own_lw (M := 10) hN (by decide)).mpr z)
            have gd100 : ¬ Nn < 100 := fun z => hc15_2 ((own_lw (M := 100) hN (by decide)).mpr z)
            have gd1000 : ¬ Nn < 1000 := fun z => hc25_3 ((own_lw (M := 1000) hN (by decide)).mpr z)
            have gd10000 : ¬ Nn < 10000 := fun z => hc35_4 ((own_lw (M := 10000) hN (by decide)).mpr z)
            have gd100000 : Nn < 100000 := (own_lw (M := 100000) hN (by decide)).mp hc45_5
            refine ⟨?_, N0, rfl⟩
            rw [own_digits, if_neg gd10, if_neg gd100, if_neg gd1000, if_neg gd10000, if_pos gd100000]
            rfl
          · refine Gl.pre (B := s₁.setTop (mkF m 55 #[.val (.long p1), .second] [(.int (lcmpW p1 (1000000 : Int64)))])) (fun _ k => XS.ifYes X0.here hx rfl (pc0 := 45) (pc' := 50) rfl (hb hby d39_45) rfl ((if0 _ _).trans (flt hc45_5).2.1) (by decide) (by decide) (XS.lloadN X0.here hx rfl (hb hby d39_50) rfl (X0.ldc2Long hx hown (mvT hZ (wq hw 276 rfl)) (g := (mkF m 51 #[.val (.long p1), .second] [(.long p1)])) rfl (hb hby d39_51) _ (XS.lcmp X0.here hx rfl (hb hby d39_54) rfl k)))) ?_
            by_cases hc55_6 : (lcmpW p1 (1000000 : Int64)) < (0 : Int32)
            · refine Gl.pre (B := s₁.setTop (mkF m 60 #[.val (.long p1), .second] [(.int (6 : Int32))])) (fun _ k => XS.ifNo X0.here hx rfl (hb hby d39_55) rfl ((if0 _ _).trans (tlt hc55_6).2.1) (XS.bipush X0.here hx rfl (hb hby d39_58) k)) ?_
              refine Gl.out X0 (v := some (.int (6 : Int32))) (fun h => by rw [hret] at h; cases h) hlk (fun fs hr => retOut X0 hx hret rfl (Or.inl ⟨rfl, Or.inl rfl, _, rfl⟩) (hb hby d39_60) hr) ?_ (by decide) (by decide)
              show Q_lawDig Z _ _ h0 n0 _ s₁.heap _
              rw [e0]
              subst hp1
              have gd10 : ¬ Nn < 10 := fun z => hc5_1 ((own_lw (M := 10) hN (by decide)).mpr z)
              have gd100 : ¬ Nn < 100 := fun z => hc15_2 ((own_lw (M := 100) hN (by decide)).mpr z)
              have gd1000 : ¬ Nn < 1000 := fun z => hc25_3 ((own_lw (M := 1000) hN (by decide)).mpr z)
              have gd10000 : ¬ Nn < 10000 := fun z => hc35_4 ((own_lw (M := 10000) hN (by decide)).mpr z)
              have gd100000 : ¬ Nn < 100000 := fun z => hc45_5 ((own_lw (M := 100000) hN (by decide)).mpr z)
              have gd1000000 : Nn < 1000000 := (own_lw (M := 1000000) hN (by decide)).mp hc55_6
              refine ⟨?_, N0, rfl⟩
              rw [own_digits, if_neg gd10, if_neg gd100, if_neg gd1000, if_neg gd10000, if_neg gd100000, if_pos gd1000000]
              rfl
            · refine Gl.pre (B := s₁.setTop (mkF m 66 #[.val (.long p1), .second] [(.int (lcmpW p1 (10000000 : Int64)))])) (fun _ k => XS.ifYes X0.here hx rfl (pc0 := 55) (pc' := 61) rfl (hb hby d39_55) rfl ((if0 _ _).trans (flt hc55_6).2.1) (by decide) (by decide) (XS.lloadN X0.here hx rfl (hb hby d39_61) rfl (X0.ldc2Long hx hown (mvT hZ (wq hw 277 rfl)) (g := (mkF m 62 #[.val (.long p1), .second] [(.long p1)])) rfl (hb hby d39_62) _ (XS.lcmp X0.here hx rfl (hb hby d39_65) rfl k)))) ?_
              by_cases hc66_7 : (lcmpW p1 (10000000 : Int64)) < (0 : Int32)
              · refine Gl.pre (B := s₁.setTop (mkF m 71 #[.val (.long p1), .second] [(.int (7 : Int32))])) (fun _ k => XS.ifNo X0.here hx rfl (hb hby d39_66) rfl ((if0 _ _).trans (tlt hc66_7).2.1) (XS.bipush X0.here hx rfl (hb hby d39_69) k)) ?_
                refine Gl.out X0 (v := some (.int (7 : Int32))) (fun h => by rw [hret] at h; cases h) hlk (fun fs hr => retOut X0 hx hret rfl (Or.inl ⟨rfl, Or.inl rfl, _, rfl⟩) (hb hby d39_71) hr) ?_ (by decide) (by decide)
                show Q_lawDig Z _ _ h0 n0 _ s₁.heap _
                rw [e0]
                subst hp1
                have gd10 : ¬ Nn < 10 := fun z => hc5_1 ((own_lw (M := 10) hN (by decide)).mpr z)
                have gd100 : ¬ Nn < 100 := fun z => hc15_2 ((own_lw (M := 100) hN (by decide)).mpr z)
                have gd1000 : ¬ Nn < 1000 := fun z => hc25_3 ((own_lw (M := 1000) hN (by decide)).mpr z)
                have gd10000 : ¬ Nn < 10000 := fun z => hc35_4 ((own_lw (M := 10000) hN (by decide)).mpr z)
                have gd100000 : ¬ Nn < 100000 := fun z => hc45_5 ((own_lw (M := 100000) hN (by decide)).mpr z)
                have gd1000000 : ¬ Nn < 1000000 := fun z => hc55_6 ((own_lw (M := 1000000) hN (by decide)).mpr z)
                have gd10000000 : Nn < 10000000 := (own_lw (M := 10000000) hN (by decide)).mp hc66_7
                refine ⟨?_, N0, rfl⟩
                rw [own_digits, if_neg gd10, if_neg gd100, if_neg gd1000, if_neg gd10000, if_neg gd100000, if_neg gd1000000, if_pos gd10000000]
                rfl
              · refine Gl.pre (B := s₁.setTop (mkF m 77 #[.val (.long p1), .second] [(.int (lcmpW p1 (100000000 : Int64)))])) (fun _ k => XS.ifYes X0.here hx rfl (pc0 := 66) (pc' := 72) rfl (hb hby d39_66) rfl ((if0 _ _).trans (flt hc66_7).2.1) (by decide) (by decide) (XS.lloadN X0.here hx rfl (hb hby d39_72) rfl (X0.ldc2Long hx hown (mvT hZ (wq hw 278 rfl)) (g := (mkF m 73 #[.val (.long p1), .second] [(.long p1)])) rfl (hb hby d39_73) _ (XS.lcmp X0.here hx rfl (hb hby d39_76) rfl k)))) ?_
                by_cases hc77_8 : (lcmpW p1 (100000000 : Int64)) < (0 : Int32)
                · refine Gl.pre (B := s₁.setTop (mkF m 82 #[.val (.long p1), .second] [(.int (8 : Int32))])) (fun _ k => XS.ifNo X0.here hx rfl (hb hby d39_77) rfl ((if0 _ _).trans (tlt hc77_8).2.1) (XS.bipush X0.here hx rfl (hb hby d39_80) k)) ?_
                  refine Gl.out X0 (v := some (.int (8 : Int32))) (fun h => by rw [hret] at h; cases h) hlk (fun fs hr => retOut X0 hx hret rfl (Or.inl ⟨rfl, Or.inl rfl, _, rfl⟩) (hb hby d39_82) hr) ?_ (by decide) (by decide)
                  show Q_lawDig Z _ _ h0 n0 _ s₁.heap _
                  rw [e0]
                  subst hp1
                  have gd10 : ¬ Nn < 10 := fun z => hc5_1 ((own_lw (M := 10) hN (by decide)).mpr z)
                  have gd100 : ¬ Nn < 100 := fun z => hc15_2 ((own_lw (M := 100) hN (by decide)).mpr z)
                  have gd1000 : ¬ Nn < 1000 := fun z => hc25_3 ((own_lw (M := 1000) hN (by decide)).mpr z)
                  have gd10000 : ¬ Nn < 10000 := fun z => hc35_4 ((own_lw (M := 10000) hN (by decide)).mpr z)
                  have gd100000 : ¬ Nn < 100000 := fun z => hc45_5 ((own_lw (M := 100000) hN (by decide)).mpr z)
                  have gd1000000 : ¬ Nn < 1000000 := fun z => hc55_6 ((own_lw (M := 1000000) hN (by decide)).mpr z)
                  have gd10000000 : ¬ Nn < 10000000 := fun z => hc66_7 ((own_lw (M := 10000000) hN (by decide)).mpr z)
                  have gd100000000 : Nn < 100000000 := (own_lw (M := 100000000) hN (by decide)).mp hc77_8
                  refine ⟨?_, N0, rfl⟩
                  rw [own_digits, if_neg gd10, if_neg gd100, if_neg gd1000, if_neg gd10000, if_neg gd100000, if_neg gd1000000, if_neg gd10000000, if_pos gd100000000]
                  rfl
                · refine Gl.pre (B := s₁.setTop (mkF m 88 #[.val (.long p1), .second] [(.int (lcmpW p1 (1000000000 : Int64)))])) (fun _ k => XS.ifYes X0.here hx rfl (pc0 := 77) (pc' := 83) rfl (hb hby d39_77) rfl ((if0 _ _).trans (flt hc77_8).2.1) (by decide) (by decide) (XS.lloadN X0.here hx rfl (hb hby d39_83) rfl (X0.ldc2Long hx hown (mvT hZ (wq hw 279 rfl)) (g := (mkF m 84 #[.val (.long p1), .second] [(.long p1)])) rfl (hb hby d39_84) _ (XS.lcmp X0.here hx rfl (hb hby d39_87) rfl k)))) ?_
                  by_cases hc88_9 : (lcmpW p1 (1000000000 : Int64)) < (0 : Int32)
                  · refine Gl.pre (B := s₁.setTop (mkF m 93 #[.val (.long p1), .second] [(.int (9 : Int32))])) (fun _ k => XS.ifNo X0.here hx rfl (hb hby d39_88) rfl ((if0 _ _).trans (tlt hc88_9).2.1) (XS.bipush X0.here hx rfl (hb hby d39_91) k)) ?_
                    refine Gl.out X0 (v := some (.int (9 : Int32))) (fun h => by rw [hret] at h; cases h) hlk (fun fs hr => retOut X0 hx hret rfl (Or.inl ⟨rfl, Or.inl rfl, _, rfl⟩) (hb hby d39_93) hr) ?_ (by decide) (by decide)
                    show Q_lawDig Z _ _ h0 n0 _ s₁.heap _
                    rw [e0]
                    subst hp1
                    have gd10 : ¬ Nn < 10 := fun z => hc5_1 ((own_lw (M := 10) hN (by decide)).mpr z)
                    have gd100 : ¬ Nn < 100 := fun z => hc15_2 ((own_lw (M := 100) hN (by decide)).mpr z)
                    have gd1000 : ¬ Nn < 1000 := fun z => hc25_3 ((own_lw (M := 1000) hN (by decide)).mpr z)
                    have gd10000 : ¬ Nn < 10000 := fun z => hc35_4 ((own_lw (M := 10000) hN (by decide)).mpr z)
                    have gd100000 : ¬ Nn < 100000 := fun z => hc45_5 ((own_lw (M := 100000) hN (by decide)).mpr z)
                    have gd1000000 : ¬ Nn < 1000000 := fun z => hc55_6 ((own_lw (M := 1000000) hN (by decide)).mpr z)
                    have gd10000000 : ¬ Nn < 10000000 := fun z => hc66_7 ((own_lw (M := 10000000) hN (by decide)).mpr z)
                    have gd100000000 : ¬ Nn < 100000000 := fun z => hc77_8 ((own_lw (M := 100000000) hN (by decide)).mpr z)
                    have gd1000000000 : Nn < 1000000000 := (own_lw (M := 1000000000) hN (by decide)).mp hc88_9
                    refine ⟨?_, N0, rfl⟩
                    rw [own_digits, if_neg gd10, if_neg gd100, if_neg gd1000, if_neg gd10000, if_neg gd100000, if_neg gd1000000, if_neg gd10000000, if_neg gd100000000, if_pos gd1000000000]
                    rfl
                  · refine Gl.pre (B := s₁.setTop (mkF m 96 #[.val (.long p1), .second] [(.int (10 : Int32))])) (fun _ k => XS.ifYes X0.here hx rfl (pc0 := 88) (pc' := 94) rfl (hb hby d39_88) rfl ((if0 _ _).trans (flt hc88_9).2.1) (by decide) (by decide) (XS.bipush X0.here hx rfl (hb hby d39_94) k)) ?_
                    refine Gl.out X0 (v := some (.int (10 : Int32))) (fun h => by rw [hret] at h; cases h) hlk (fun fs hr => retOut X0 hx hret rfl (Or.inl ⟨rfl, Or.inl rfl, _, rfl⟩) (hb hby d39_96) hr) ?_ (by decide) (by decide)
                    show Q_lawDig Z _ _ h0 n0 _ s₁.heap _
                    rw [e0]
                    subst hp1
                    have gd10 : ¬ Nn < 10 := fun z => hc5_1 ((own_lw (M := 10) hN (by decide)).mpr z)
                    have gd100 : ¬ Nn < 100 := fun z => hc15_2 ((own_lw (M := 100) hN (by decide)).mpr z)
                    have gd1000 : ¬ Nn < 1000 := fun z => hc25_3 ((own_lw (M := 1000) hN (by decide)).mpr z)
                    have gd10000 : ¬ Nn < 10000 := fun z => hc35_4 ((own_lw (M := 10000) hN (by decide)).mpr z)
                    have gd100000 : ¬ Nn < 100000 := fun z => hc45_5 ((own_lw (M := 100000) hN (by decide)).mpr z)
                    have gd1000000 : ¬ Nn < 1000000 := fun z => hc55_6 ((own_lw (M := 1000000) hN (by decide)).mpr z)
                    have gd10000000 : ¬ Nn < 10000000 := fun z => hc66_7 ((own_lw (M := 10000000) hN (by decide)).mpr z)
                    have gd100000000 : ¬ Nn < 100000000 := fun z => hc77_8 ((own_lw (M := 100000000) hN (by decide)).mpr z)
                    have gd1000000000 : ¬ Nn < 1000000000 := fun z => hc88_9 ((own_lw (M := 1000000000) hN (by decide)).mpr z)
                    refine ⟨?_, N0, rfl⟩
                    rw [own_digits, if_neg gd10, if_neg gd100, if_neg gd1000, if_neg gd10000, if_neg gd100000, if_neg gd1000000, if_neg gd10000000, if_neg gd100000000, if_neg gd1000000000]
                    rfl
theorem pd_23 : parseMethodDescriptor "(I)J" = some ⟨[.int], some .long⟩ := by decide +kernel
theorem d46_0 : decode method_6_code 0 = .ok (.iload 5, 2) := by decide +kernel
theorem d46_2 : decode method_6_code 2 = .ok (.iload_n 2, 1) := by decide +kernel
theorem d46_3 : decode method_6_code 3 = .ok (.if_icmp .lt 5, 3) := by decide +kernel
theorem d46_8 : decode method_6_code 8 = .ok (.iload_n 2, 1) := by decide +kernel
theorem d46_9 : decode method_6_code 9 = .ok (.iconst 1, 1) := by decide +kernel
theorem d46_10 : decode method_6_code 10 = .ok (.isub, 1) := by decide +kernel
theorem d46_11 : decode method_6_code 11 = .ok (.iload 5, 2) := by decide +kernel
theorem d46_13 : decode method_6_code 13 = .ok (.isub, 1) := by decide +kernel
theorem d46_14 : decode method_6_code 14 = .ok (.invokestatic 69, 3) := by decide +kernel
theorem d46_17 : decode method_6_code 17 = .ok (.lstore 6, 2) := by decide +kernel
theorem d46_19 : decode method_6_code 19 = .ok (.bipush 48, 2) := by decide +kernel
theorem d46_21 : decode method_6_code 21 = .ok (.lload_n 3, 1) := by decide +kernel
theorem d46_22 : decode method_6_code 22 = .ok (.lload 6, 2) := by decide +kernel
theorem d46_24 : decode method_6_code 24 = .ok (.ldiv, 1) := by decide +kernel
theorem d46_25 : decode method_6_code 25 = .ok (.ldc2_w 51, 3) := by decide +kernel
theorem d46_28 : decode method_6_code 28 = .ok (.lrem, 1) := by decide +kernel
theorem d46_29 : decode method_6_code 29 = .ok (.l2i, 1) := by decide +kernel
theorem d46_30 : decode method_6_code 30 = .ok (.iadd, 1) := by decide +kernel
theorem d46_31 : decode method_6_code 31 = .ok (.i2c, 1) := by decide +kernel
theorem d46_32 : decode method_6_code 32 = .ok (.istore 8, 2) := by decide +kernel
theorem d46_34 : decode method_6_code 34 = .ok (.aload_n 0, 1) := by decide +kernel
theorem d46_35 : decode method_6_code 35 = .ok (.iload_n 1, 1) := by decide +kernel
theorem d46_36 : decode method_6_code 36 = .ok (.iload 5, 2) := by decide +kernel
theorem d46_38 : decode method_6_code 38 = .ok (.iadd, 1) := by decide +kernel
theorem d46_39 : decode method_6_code 39 = .ok (.invokevirtual 43, 3) := by decide +kernel
theorem d46_42 : decode method_6_code 42 = .ok (.iload 8, 2) := by decide +kernel
theorem d46_44 : decode method_6_code 44 = .ok (.if_icmp .ne 7, 3) := by decide +kernel
theorem d46_47 : decode method_6_code 47 = .ok (.iconst 1, 1) := by decide +kernel
theorem d46_48 : decode method_6_code 48 = .ok (.goto 4, 3) := by decide +kernel
theorem d46_52 : decode method_6_code 52 = .ok (.ireturn, 1) := by decide +kernel
theorem d46_6 : decode method_6_code 6 = .ok (.iconst 1, 1) := by decide +kernel
theorem d46_7 : decode method_6_code 7 = .ok (.ireturn, 1) := by decide +kernel
theorem ef_lawD (m : MethodId) (x0 : Addr) (x1 : Int32) (x2 : Int32) (x3 : Int64) (x4 : Int32) : entryFrame m #[(.ref x0), (.int x1), (.int x2), (.long x3), (.int x4)] 9 = mkF m 0 #[.val (.ref x0), .val (.int x1), .val (.int x2), .val (.long x3), .second, .val (.int x4), .unset, .unset, .unset] [] := by first | (simp [entryFrame, mkF, argsToLocals, Value.category]; done) | rfl
def Q_lawD (Z : State) (a1 : Addr) (p2 : Int32) (p3 : Int32) (p4 : Int64) (p5 : Int32) (i : Nat) (ofs : Nat) (D : Nat) (Nn : Nat) (t : Addr) (k : ClassId) (cs : List Int32) (G1 : Int32) (G3 : Value) (h0 : Heap) (n0 : Nat) (v : Option Value) (h : Heap) (L : List Loc) : Prop := v = some (.int (1 : Int32)) ∧ Fr n0 L ∧ (h = h0)
set_option maxRecDepth 65536 in
set_option maxHeartbeats 40000000 in
theorem lawD (l : Launch) (Z : State) (a0 : Array Value) (hw : ∀ d ∈ tables_1, d.before a0 Z = true) (ws : List Jvm.Cond) (a1 : Addr) (p2 : Int32) (p3 : Int32) (p4 : Int64) (p5 : Int32) (i : Nat) (ofs : Nat) (D : Nat) (Nn : Nat) (t : Addr) (k : ClassId) (cs : List Int32) (G1 : Int32) (G3 : Value) (h0 : Heap) (n0 : Nat) (Z0 : n0 ≤ h0.size) (sv : StrV Z h0 a1 t k cs) (hp2 : p2 = Int32.ofNat ofs) (hp3 : p3 = Int32.ofNat D) (hp4 : p4 = Int64.ofNat Nn) (hp5 : p5 = Int32.ofNat i) (hD : D ≤ 10) (hi9 : i ≤ 9) (ho : ofs ≤ 13) (hN : Nn ≤ 2147483648) (hlen : ofs + D ≤ cs.length) (hcs : ∀ t : Nat, t < D → cs.getD (ofs + t) 0 = Int32.ofNat (48 + Nn / 10 ^ (D - 1 - t) % 10)) (O2 : Sta Z Z.heap "java/lang/String" "COMPACT_STRINGS" "Z" (.int G1)) (P5 : ¬ (G1 = (0 : Int32))) (O4 : Sta Z Z.heap "jdk/internal/util/Preconditions" "SIOOBE_FORMATTER" "Ljava/util/function/BiFunction;" G3) (rG3 : G3.isRef = true) (Od : Old Z n0 h0) :
    MetFree l (⟨"com/example/bourse/bourse/exchange/BoundedFileTooLongPinLaw", "d", "(Ljava/lang/String;IIJI)Z"⟩ : MethodName) (head1 (Jvm.Cond.code (⟨"com/example/bourse/bourse/exchange/BoundedFileTooLongPinLaw", "d", "(Ljava/lang/String;IIJI)Z"⟩ : MethodName) method_6_code 9 (some .boolean) :: ws) ({ frames := 4, cells := 0, slots := 0, locals := 53 } : Room)) (fun a U => a = #[(.ref a1), (.int p2), (.int p3), (.long p4), (.int p5)] ∧ Z.Warmed39 U.vm ∧ U.heap = h0) (fun _ _ _ _ _ => True) (fun _ U o U' => ∃ v L, o = .returned v ∧ Q_lawD Z a1 p2 p3 p4 p5 i ofs D Nn t k cs G1 G3 h0 n0 v U'.heap L ∧ FrameEnd U o U' L ({ frames := 4, cells := 0, slots := 0, locals := 53 } : Room).cells ({ frames := 4, cells := 0, slots := 0, locals := 53 } : Room).slots) := by
  refine MetFree.of_bodySF (plainFor_of_name pn_com_example_bourse_bourse_exchange_BoundedFileTooLongPinLaw) hisR ?_
  intro p e s m args below meth c s₁ Bd hml0 hP hK
  obtain ⟨rfl, hZ, hh⟩ := hP
  have hx := Bd.exec
  have hby := Bd.bytes
  have hml : c.maxLocals = 9 := hml0
  have hown : s.vm.findClass "com/example/bourse/bourse/exchange/BoundedFileTooLongPinLaw" = some m.cls := findClass_of_methodNamed Bd.named
  have hnm := (name_of_methodNamed Bd.named Bd.method).1
  have hret : meth.sig.returnType = (some .boolean) := Bd.returns
  have hlk : meth.locks = false := BodyLoose.notSynchronized Bd
  have X0 : Stand p l e ({ frames := 4, cells := 0, slots := 0, locals := 53 } : Room) s m #[(.ref a1), (.int p2), (.int p3), (.long p4), (.int p5)] below meth c s₁ [] 0 0 := Stand.of_body Bd
  have e0 : s₁.heap = h0 := by rw [← hh, Bd.state]; rfl
  have N0 := Fr.nil n0
  have K0 : Keep h0 h0 [] := Keep.refl h0 _
  show Gl p.tables e below s (Q_lawD Z a1 p2 p3 p4 p5 i ofs D Nn t k cs G1 G3 h0 n0) 0 0 _
  refine Gl.pre (B := s₁.setTop (mkF m 0 #[.val (.ref a1), .val (.int p2), .val (.int p3), .val (.long p4), .second, .val (.int p5), .unset, .unset, .unset] [])) (fun _ k => castTop (ef_lawD m a1 p2 p3 p4 p5) k) ?_
  have E_a1 := sv.1
  refine Gl.pre (B := s₁.setTop (mkF m 3 #[.val (.ref a1), .val (.int p2), .val (.int p3), .val (.long p4), .second, .val (.int p5), .unset, .unset, .unset] [(.int p3), (.int p5)])) (fun _ k => XS.iload X0.here hx rfl (hb hby d46_0) rfl (XS.iloadN X0.here hx rfl (hb hby d46_2) rfl k)) ?_
  by_cases hc3_1 : p5 < p3
  · refine Gl.pre (B := s₁.setTop (mkF m 8 #[.val (.ref a1), .val (.int p2), .val (.int p3), .val (.long p4), .second, .val (.int p5), .unset, .unset, .unset] [])) (fun _ k => XS.icmpYes X0.here hx rfl (pc0 := 3) (pc' := 8) rfl (hb hby d46_3) rfl (tlt hc3_1).1 (by decide) (by decide) k) ?_
    have hiD : i < D := (lt_of32 (by omega) (by omega)).mp (by rw [← hp5, ← hp3]; exact hc3_1)
    refine Gl.pre (B := s₁.setTop (mkF m 14 #[.val (.ref a1), .val (.int p2), .val (.int p3), .val (.long p4), .second, .val (.int p5), .unset, .unset, .unset] [(.int ((p3 - (1 : Int32)) - p5))])) (fun _ k => XS.iloadN X0.here hx rfl (hb hby d46_8) rfl (XS.iconst X0.here hx rfl (hb hby d46_9) (XS.isub X0.here hx rfl (hb hby d46_10) rfl (XS.iload X0.here hx rfl (hb hby d46_11) rfl (XS.isub X0.here hx rfl (hb hby d46_13) rfl k))))) ?_
    obtain ⟨rv2, _, ⟨T2, L2, k2, n2⟩, -, X2, ⟨Lc2, hQ2, l2, y2, z2⟩, st2⟩ := Jvm.LawKit.callS X0 hx (y := (⟨"com/example/bourse/bourse/exchange/BoundedFileTooLongPinLaw", "pow10", "(I)J"⟩ : MethodName)) hown (mvT hZ (wq hw 268 rfl)) (mvT hZ (wq hw 269 rfl)) (mvT hZ (wq hw 234 rfl)) (mvT hZ (wq hw 270 rfl)) (by decide) (backOf (W := 0) (lawPow l Z a0 hw [] ((p3 - (1 : Int32)) - p5) (D - 1 - i) h0 n0 Z0 (own_dsub hp3 hp5 hiD hD) (by omega)) hZ (wq hw 270 rfl) (wq hw 234 rfl) (by decide) (by decide)) (g := (mkF m 14 #[.val (.ref a1), .val (.int p2), .val (.int p3), .val (.long p4), .second, .val (.int p5), .unset, .unset, .unset] [(.int ((p3 - (1 : Int32)) - p5))])) rfl (by rw [hml]; rfl) (argsL := [(.int ((p3 - (1 : Int32)) - p5))]) (rest := []) (lenOf pd_23 rfl) rfl (by show 2 * 0 + _ ≤ _; exact Nat.le_of_eq rfl) (hb hby d46_14) (fun _ _ => ⟨rfl, e0, (by decide : 0 + 0 ≤ _), (by decide : 0 + 0 ≤ _)⟩)
    dsimp only [Pt.U, Pt.locs, Pt.cells, Pt.slots] at X2 l2 y2 z2 st2 hQ2
    have X2 := own_reb X2 l2 y2 z2
    obtain ⟨rfl, N2q, e2⟩ := hQ2
    have N2 := Fr.app N0 N2q
    refine Gl.pre (B := T2.setTop (mkF m 29 #[.val (.ref a1), .val (.int p2), .val (.int p3), .val (.long p4), .second, .val (.int p5), .val (.long (Int64.ofNat (10 ^ (D - 1 - i)))), .second, .unset] [(.long ((p4 / (Int64.ofNat (10 ^ (D - 1 - i)))) - ((p4 / (Int64.ofNat (10 ^ (D - 1 - i)))) / (10 : Int64)) * (10 : Int64))), (.int (48 : Int32))])) (fun _ k => st2 _ (XS.lstore X2.here hx rfl (hb hby d46_17) rfl (l' := #[.val (.ref a1), .val (.int p2), .val (.int p3), .val (.long p4), .second, .val (.int p5), .val (.long (Int64.ofNat (10 ^ (D - 1 - i)))), .second, .unset]) rfl (XS.bipush X2.here hx rfl (hb hby d46_19) (XS.lloadN X2.here hx rfl (hb hby d46_21) rfl (XS.lload X2.here hx rfl (hb hby d46_22) rfl (XS.ldiv X2.here hx rfl (hb hby d46_24) rfl (own_pwn (by omega)) (X2.ldc2Long hx hown (mvT hZ (wq hw 236 rfl)) (g := (mkF m 25 #[.val (.ref a1), .val (.int p2), .val (.int p3), .val (.long p4), .second, .val (.int p5), .val (.long (Int64.ofNat (10 ^ (D - 1 - i)))), .second, .unset] [(.long (p4 / (Int64.ofNat (10 ^ (D - 1 - i))))), (.int (48 : Int32))])) rfl (hb hby d46_25) _ (XS.lrem X2.here hx rfl (hb hby d46_28) rfl (by decide) k)))))))) ?_
    refine Gl.pre (B := T2.setTop (mkF m 32 #[.val (.ref a1), .val (.int p2), .val (.int p3), .val (.long p4), .second, .val (.int p5), .val (.long (Int64.ofNat (10 ^ (D - 1 - i)))), .second, .unset] [(.int (((48 : Int32) + (((p4 / (Int64.ofNat (10 ^ (D - 1 - i)))) - ((p4 / (Int64.ofNat (10 ^ (D - 1 - i)))) / (10 : Int64)) * (10 : Int64)).toInt32)).toUInt32.toUInt16.toUInt32.toInt32))])) (fun _ k => XS.l2i X2.here hx rfl (hb hby d46_29) rfl (XS.iadd X2.here hx rfl (hb hby d46_30) rfl (XS.i2c X2.here hx rfl (hb hby d46_31) rfl k))) ?_
    generalize h_dc : (((48 : Int32) + (((p4 / (Int64.ofNat (10 ^ (D - 1 - i)))) - ((p4 / (Int64.ofNat (10 ^ (D - 1 - i)))) / (10 : Int64)) * (10 : Int64)).toInt32)).toUInt32.toUInt16.toUInt32.toInt32) = dc
    refine Gl.pre (B := T2.setTop (mkF m 39 #[.val (.ref a1), .val (.int p2), .val (.int p3), .val (.long p4), .second, .val (.int p5), .val (.long (Int64.ofNat (10 ^ (D - 1 - i)))), .second, .val (.int dc)] [(.int (p2 + p5)), (.ref a1)])) (fun _ k => XS.istore X2.here hx rfl (hb hby d46_32) rfl (l' := #[.val (.ref a1), .val (.int p2), .val (.int p3), .val (.long p4), .second, .val (.int p5), .val (.long (Int64.ofNat (10 ^ (D - 1 - i)))), .second, .val (.int dc)]) rfl (XS.aloadN X2.here hx rfl (hb hby d46_34) rfl rfl (XS.iloadN X2.here hx rfl (hb hby d46_35) rfl (XS.iload X2.here hx rfl (hb hby d46_36) rfl (XS.iadd X2.here hx rfl (hb hby d46_38) rfl k))))) ?_
    obtain ⟨cq3, kq3, q3a, q3b, q3c⟩ := isOf hZ e2 E_a1
    obtain ⟨rv3, _, ⟨T3, L3, k3, n3⟩, -, X3, ⟨Lc3, hQ3, l3, y3, z3⟩, st3⟩ := X2.virtualBack hx (y := (⟨"java/lang/String", "charAt", "(I)C"⟩ : MethodName)) (z := (⟨"java/lang/String", "charAt", "(I)C"⟩ : MethodName)) hown (mvT hZ (wq hw 243 rfl)) (mvT hZ (wq hw 244 rfl)) (notFace_of_selects (args := #[]) (mvT hZ (wq hw 246 rfl))) (mvT hZ (wq hw 246 rfl)) (mvT hZ (wq hw 245 rfl)) (by decide) (backOf (W := 0) (strChar l Z a0 hw [] a1 (p2 + p5) (ofs + i) t k cs G1 G3 h0 n0 Z0 sv (own_add2 hp2 hp5) (by omega) O2 P5 O4 rG3 Od) hZ (wq hw 247 rfl) (wq hw 23 rfl) (by decide) (by decide)) q3a q3c (g := (mkF m 39 #[.val (.ref a1), .val (.int p2), .val (.int p3), .val (.long p4), .second, .val (.int p5), .val (.long (Int64.ofNat (10 ^ (D - 1 - i)))), .second, .val (.int dc)] [(.int (p2 + p5)), (.ref a1)])) rfl (by rw [hml]; rfl) (Steps.refl _) (argsL := [(.int (p2 + p5))]) (rest := []) (lenOf pd_22 rfl) rfl (by show 2 * 0 + _ ≤ _; exact Nat.le_of_eq rfl) (hb hby d46_39) (fun _ _ => ⟨rfl, e2, (by decide : 0 + 0 ≤ _), (by decide : 0 + 0 ≤ _)⟩)
    dsimp only [Pt.U, Pt.locs, Pt.cells, Pt.slots] at X3 l3 y3 z3 st3 hQ3
    have X3 := own_reb X3 l3 y3 z3
    obtain ⟨rfl, N3q, e3⟩ := hQ3
    have N3 := Fr.app N2 N3q
    refine Gl.pre (B := T3.setTop (mkF m 52 #[.val (.ref a1), .val (.int p2), .val (.int p3), .val (.long p4), .second, .val (.int p5), .val (.long (Int64.ofNat (10 ^ (D - 1 - i)))), .second, .val (.int dc)] [(.int (1 : Int32))])) (fun _ k => st3.trans (XS.iload X3.here hx rfl (hb hby d46_42) rfl (XS.icmpNo X3.here hx rfl (hb hby d46_44) rfl (teq ((hcs i hiD).trans ((own_dch hp4 hN (by omega)).symm.trans h_dc) : (cs.getD (ofs + i) 0) = dc)).2 (XS.iconst X3.here hx rfl (hb hby d46_47) (XS.goto X3.here hx rfl (pc0 := 48) (pc' := 52) rfl (hb hby d46_48) (by decide) (by decide) k))))) ?_
    refine Gl.out X3 (v := some (.int (1 : Int32))) (fun h => by rw [hret] at h; cases h) hlk (fun fs hr => retN X3 hx (t := .boolean) hret (by simp) (hb hby d46_52) hr) ?_ (by decide) (by decide)
    show Q_lawD Z _ _ _ _ _ _ _ _ _ _ _ _ _ _ h0 n0 _ T3.heap _
    rw [e3]
    exact ⟨rfl, N3, rfl⟩
  · refine Gl.pre (B := s₁.setTop (mkF m 7 #[.val (.ref a1), .val (.int p2), .val (.int p3), .val (.long p4), .second, .val (.int p5), .unset, .unset, .unset] [(.int (1 : Int32))])) (fun _ k => XS.icmpNo X0.here hx rfl (hb hby d46_3) rfl (flt hc3_1).1 (XS.iconst X0.here hx rfl (hb hby d46_6) k)) ?_
    refine Gl.out X0 (v := some (.int (1 : Int32))) (fun h => by rw [hret] at h; cases h) hlk (fun fs hr => retN X0 hx (t := .boolean) hret (by simp) (hb hby d46_7) hr) ?_ (by decide) (by decide)
    show Q_lawD Z _ _ _ _ _ _ _ _ _ _ _ _ _ _ h0 n0 _ s₁.heap _
    rw [e0]
    exact ⟨rfl, N0, rfl⟩
theorem d38_0 : decode jdk_78_method_6_code 0 = .ok (.aload_n 0, 1) := by decide +kernel
theorem d38_1 : decode jdk_78_method_6_code 1 = .ok (.getfield 31, 3) := by decide +kernel
theorem d38_4 : decode jdk_78_method_6_code 4 = .ok (.areturn, 1) := by decide +kernel
theorem ef_getMsg (m : MethodId) (x0 : Addr) : entryFrame m #[(.ref x0)] 1 = mkF m 0 #[.val (.ref x0)] [] := by first | (simp [entryFrame, mkF, argsToLocals, Value.category]; done) | rfl
def Q_getMsg (Z : State) (a1 : Addr) (a2 : Addr) (h0 : Heap) (n0 : Nat) (v : Option Value) (h : Heap) (L : List Loc) : Prop := v = some (.ref a2) ∧ Fr n0 L ∧ (h = h0)
set_option maxRecDepth 65536 in
set_option maxHeartbeats 40000000 in
theorem getMsg (l : Launch) (Z : State) (a0 : Array Value) (hw : ∀ d ∈ tables_1, d.before a0 Z = true) (ws : List Jvm.Cond) (a1 : Addr) (a2 : Addr) (h0 : Heap) (n0 : Nat) (Z0 : n0 ≤ h0.size) (Fm : Fld Z h0 a1 "java/lang/Throwable" "detailMessage" "Ljava/lang/String;" (.ref a2)) :
    MetFree l (⟨"java/lang/Throwable", "getMessage", "()Ljava/lang/String;"⟩ : MethodName) (head1 (Jvm.Cond.code (⟨"java/lang/Throwable", "getMessage", "()Ljava/lang/String;"⟩ : MethodName) jdk_78_method_6_code 1 (some (.object "java/lang/String")) :: ws) ({ frames := 0, cells := 0, slots := 0, locals := 0 } : Room)) (fun a U => a = #[(.ref a1)] ∧ Z.Warmed39 U.vm ∧ U.heap = h0) (fun _ _ _ _ _ => True) (fun _ U o U' => ∃ v L, o = .returned v ∧ Q_getMsg Z a1 a2 h0 n0 v U'.heap L ∧ FrameEnd U o U' L ({ frames := 0, cells := 0, slots := 0, locals := 0 } : Room).cells ({ frames := 0, cells := 0, slots := 0, locals := 0 } : Room).slots) := by
  refine MetFree.of_bodySF (plainFor_of_name pn_java_lang_Throwable) hisR ?_
  intro p e s m args below meth c s₁ Bd hml0 hP hK
  obtain ⟨rfl, hZ, hh⟩ := hP
  have hx := Bd.exec
  have hby := Bd.bytes
  have hml : c.maxLocals = 1 := hml0
  have hown : s.vm.findClass "java/lang/Throwable" = some m.cls := findClass_of_methodNamed Bd.named
  have hnm := (name_of_methodNamed Bd.named Bd.method).1
  have hret : meth.sig.returnType = (some (.object "java/lang/String")) := Bd.returns
  have hlk : meth.locks = false := BodyLoose.notSynchronized Bd
  have X0 : Stand p l e ({ frames := 0, cells := 0, slots := 0, locals := 0 } : Room) s m #[(.ref a1)] below meth c s₁ [] 0 0 := Stand.of_body Bd
  have e0 : s₁.heap = h0 := by rw [← hh, Bd.state]; rfl
  have N0 := Fr.nil n0
  have K0 : Keep h0 h0 [] := Keep.refl h0 _
  show Gl p.tables e below s (Q_getMsg Z a1 a2 h0 n0) 0 0 _
  refine Gl.pre (B := s₁.setTop (mkF m 0 #[.val (.ref a1)] [])) (fun _ k => castTop (ef_getMsg m a1) k) ?_
  refine Gl.pre (B := s₁.setTop (mkF m 1 #[.val (.ref a1)] [(.ref a1)])) (fun _ k => XS.aloadN X0.here hx rfl (hb hby d38_0) rfl rfl k) ?_
  obtain ⟨T1, X1, e1, st1⟩ := getF X0 hx hZ hown (host := "") (Or.inl (wq hw 219 rfl)) Via.refl e0 Fm (g := (mkF m 1 #[.val (.ref a1)] [(.ref a1)])) rfl rfl (hb hby d38_1)
  refine Gl.pre (B := T1.setTop (mkF m 4 #[.val (.ref a1)] [(.ref a2)])) (fun _ k => st1 _ k) ?_
  refine Gl.out X1 (v := some (.ref a2)) (fun h => by rw [hret] at h; cases h) hlk (fun fs hr => retOut X1 hx hret rfl (Or.inr (Or.inr (Or.inr (Or.inr ⟨rfl, rfl, rfl⟩)))) (hb hby d38_4) hr) ?_ (by decide) (by decide)
  show Q_getMsg Z _ _ h0 n0 _ T1.heap _
  rw [e1]
  exact ⟨rfl, N0, rfl⟩
theorem pd_24 : parseMethodDescriptor "()V" = some ⟨[], none⟩ := by decide +kernel
theorem pd_25 : parseMethodDescriptor "(Ljava/lang/String;)Ljava/lang/StringBuilder;" = some ⟨[(.object "java/lang/String")], some (.object "java/lang/StringBuilder")⟩ := by decide +kernel
theorem pd_26 : parseMethodDescriptor "(I)Ljava/lang/StringBuilder;" = some ⟨[.int], some (.object "java/lang/StringBuilder")⟩ := by decide +kernel
theorem pd_27 : parseMethodDescriptor "()Ljava/lang/String;" = some ⟨[], some (.object "java/lang/String")⟩ := by decide +kernel
theorem d1_0 : decode prog_8_method_3_code 0 = .ok (.new 30, 3) := by decide +kernel
theorem d1_3 : decode prog_8_method_3_code 3 = .ok (.dup, 1) := by decide +kernel
theorem d1_4 : decode prog_8_method_3_code 4 = .ok (.new 45, 3) := by decide +kernel
theorem d1_7 : decode prog_8_method_3_code 7 = .ok (.dup, 1) := by decide +kernel
theorem d1_8 : decode prog_8_method_3_code 8 = .ok (.invokespecial 47, 3) := by decide +kernel
theorem d1_11 : decode prog_8_method_3_code 11 = .ok (.ldc 48, 2) := by decide +kernel
theorem d1_13 : decode prog_8_method_3_code 13 = .ok (.invokevirtual 50, 3) := by decide +kernel
theorem d1_16 : decode prog_8_method_3_code 16 = .ok (.iload_n 0, 1) := by decide +kernel
theorem d1_17 : decode prog_8_method_3_code 17 = .ok (.invokevirtual 54, 3) := by decide +kernel
theorem d1_20 : decode prog_8_method_3_code 20 = .ok (.ldc 57, 2) := by decide +kernel
theorem d1_22 : decode prog_8_method_3_code 22 = .ok (.invokevirtual 50, 3) := by decide +kernel
theorem d1_25 : decode prog_8_method_3_code 25 = .ok (.invokevirtual 59, 3) := by decide +kernel
theorem d1_28 : decode prog_8_method_3_code 28 = .ok (.invokespecial 60, 3) := by decide +kernel
theorem d1_31 : decode prog_8_method_3_code 31 = .ok (.areturn, 1) := by decide +kernel
theorem pn_com_example_bourse_bourse_exchange_BoundedFile : plainName "com/example/bourse/bourse/exchange/BoundedFile" = true := by first | (simp [plainName, overriddenIn]; done) | decide +kernel
theorem ef_tooLong (m : MethodId) (x0 : Int32) : entryFrame m #[(.int x0)] 1 = mkF m 0 #[.val (.int x0)] [] := by first | (simp [entryFrame, mkF, argsToLocals, Value.category]; done) | rfl
def Q_tooLong (Z : State) (p1 : Int32) (G1 : Int32) (uA : Addr) (sA : Addr) (sT : Addr) (dA : Addr) (dB : Addr) (DA : Cell) (DB : Cell) (h0 : Heap) (n0 : Nat) (v : Option Value) (h : Heap) (L : List Loc) : Prop := ∃ x : Addr, ∃ y : Addr, ∃ ty : Addr, ∃ ky : ClassId, v = some (.ref x) ∧ Fr n0 L ∧ (Keep h0 h []) ∧ (h0.size ≤ x) ∧ (h0.size ≤ y) ∧ (Exa Z h x "java/io/IOException") ∧ (Unt h x) ∧ (Fld Z h x "java/lang/Throwable" "detailMessage" "Ljava/lang/String;" (.ref y)) ∧ (Fld Z h x "java/lang/Throwable" "cause" "Ljava/lang/Throwable;" (.ref x)) ∧ (StrV Z h y ty ky (msgL p1))
set_option maxRecDepth 65536 in
set_option maxHeartbeats 40000000 in
theorem tooLong (l : Launch) (Z : State) (a0 : Array Value) (hw : ∀ d ∈ tables_1, d.before a0 Z = true) (ws : List Jvm.Cond) (p1 : Int32) (G1 : Int32) (uA : Addr) (sA : Addr) (sT : Addr) (dA : Addr) (dB : Addr) (DA : Cell) (DB : Cell) (h0 : Heap) (n0 : Nat) (Z0 : n0 ≤ h0.size) (O2 : Sta Z Z.heap "java/lang/String" "COMPACT_STRINGS" "Z" (.int G1)) (P5 : ¬ (G1 = (0 : Int32))) (Od : Old Z n0 h0) (O6 : Sta Z Z.heap "java/lang/Throwable" "UNASSIGNED_STACK" "[Ljava/lang/StackTraceElement;" (.ref uA)) (O7 : Sta Z Z.heap "java/lang/Throwable" "SUPPRESSED_SENTINEL" "Ljava/util/List;" (.ref sA)) (hlt : l.stackTraces = true) (tbA : SBG.Tbl Z "DigitOnes" sT dA DA) (onA : SBG.Ones DA) (tbB : SBG.Tbl Z "DigitTens" sT dB DB) (onB : SBG.Tens DB) :
    MetFree l (⟨"com/example/bourse/bourse/exchange/BoundedFile", "tooLong", "(I)Ljava/io/IOException;"⟩ : MethodName) (head1 (Jvm.Cond.code (⟨"com/example/bourse/bourse/exchange/BoundedFile", "tooLong", "(I)Ljava/io/IOException;"⟩ : MethodName) prog_8_method_3_code 1 (some (.object "java/io/IOException")) :: ws) ({ frames := 6, cells := 11, slots := 2960, locals := 115 } : Room)) (fun a U => a = #[(.int p1)] ∧ Z.Warmed39 U.vm ∧ U.heap = h0 ∧ CHv Z EL1 U.vm h0) (fun _ _ bl s _ => s.vm.MethodsKnown ∧ s.vm.FramesKnown bl) (fun _ U o U' => ∃ v L, o = .returned v ∧ Q_tooLong Z p1 G1 uA sA sT dA dB DA DB h0 n0 v U'.heap L ∧ CHr Z EL1 U.vm U.heap U'.vm U'.heap ∧ ReturnedEndW U o U' L ({ frames := 6, cells := 11, slots := 2960, locals := 115 } : Room).cells ({ frames := 6, cells := 11, slots := 2960, locals := 115 } : Room).slots) := by
  refine MetFree.of_bodySF (plainFor_of_name pn_com_example_bourse_bourse_exchange_BoundedFile) hisR ?_
  intro p e s m args below meth c s₁ Bd hml0 hP hK
  obtain ⟨rfl, hZ, hh, CH0⟩ := hP
  have hx := Bd.exec
  have hby := Bd.bytes
  have hml : c.maxLocals = 1 := hml0
  have hown : s.vm.findClass "com/example/bourse/bourse/exchange/BoundedFile" = some m.cls := findClass_of_methodNamed Bd.named
  have hnm := (name_of_methodNamed Bd.named Bd.method).1
  have hret : meth.sig.returnType = (some (.object "java/io/IOException")) := Bd.returns
  have hlk : meth.locks = false := BodyLoose.notSynchronized Bd
  have X0 : Stand p l e ({ frames := 6, cells := 11, slots := 2960, locals := 115 } : Room) (s.setVm s.vm) m #[(.int p1)] below meth c s₁ [] 0 0 := Stand.of_body Bd
  have e0 : s₁.heap = h0 := by rw [← hh, Bd.state]; rfl
  have N0 := Fr.nil n0
  have hZi : Z.Warmed39 s.vm := hZ
  have hZ : Z.Warmed39 (s.setVm s.vm).vm := hZ
  have hown : (s.setVm s.vm).vm.findClass "com/example/bourse/bourse/exchange/BoundedFile" = some m.cls := hown
  have hsh : s.heap = h0 := hh
  have hS0 : s.Since s.vm 0 := State.WarmedH.since (State.WarmedH.refl s) 0
  have hk0 : 0 ≤ h0.size := Nat.zero_le _
  have hEL : EW Z a0 EL1 := ew_all hw
  have CR : CHr Z EL1 s.vm h0 s.vm h0 := CHr.refl CH0
  have K0 : Keep h0 h0 [] := Keep.refl h0 _
  show GlW p.tables e below s EL1 Z (Q_tooLong Z p1 G1 uA sA sT dA dB DA DB h0 n0) 11 2960 _
  refine GlW.pre (B := s₁.setTop (mkF m 0 #[.val (.int p1)] [])) (fun _ k => castTop (ef_tooLong m p1) k) ?_
  obtain ⟨T1, h1, X1, e1, E1, A1, D1, Un1, st1⟩ := newO X0 hx hZ hown (wq hw 4 rfl) (wq hw 5 rfl) (wq hw 6 rfl) e0 (g := (mkF m 0 #[.val (.int p1)] [])) rfl (hb hby d1_0) (by decide) (by decide)
  obtain ⟨b1, g1⟩ : ∃ z, z = h0.size := ⟨_, rfl⟩
  rw [← g1] at A1 D1 st1 Un1
  have g_b1 : n0 ≤ b1 := Nat.le_trans Z0 (Nat.le_of_eq g1.symm)
  have sz_b1 : h0.size ≤ b1 := Nat.le_trans K0.1 (Nat.le_of_eq g1.symm)
  have CR_q := CR.trans (CHr.ext E1 CR.1)
  have Z0 := Nat.le_trans Z0 E1.1
  have Od := Od.ext E1
  have K0 := K0.ext E1
  have CR := CR_q
  have hk1 := Nat.le_trans hk0 E1.1
  have U_b1 : Unt h1 b1 := Un1
  have E_b1 := A1
  have F_cause_b1 : Fld Z h1 b1 "java/lang/Throwable" "cause" "Ljava/lang/Throwable;" .null := D1 (Or.inl (wq hw 185 rfl)) (ty := (.object "java/lang/Throwable")) (by decide)
  have F_stackTrace_b1 : Fld Z h1 b1 "java/lang/Throwable" "stackTrace" "[Ljava/lang/StackTraceElement;" .null := D1 (Or.inl (wq hw 188 rfl)) (ty := (.array (.object "java/lang/StackTraceElement"))) (by decide)
  have F_suppressedExceptions_b1 : Fld Z h1 b1 "java/lang/Throwable" "suppressedExceptions" "Ljava/util/List;" .null := D1 (Or.inl (wq hw 191 rfl)) (ty := (.object "java/util/List")) (by decide)
  have F_detailMessage_b1 : Fld Z h1 b1 "java/lang/Throwable" "detailMessage" "Ljava/lang/String;" .null := D1 (Or.inl (wq hw 215 rfl)) (ty := (.object "java/lang/String")) (by decide)
  have F_backtrace_b1 : Fld Z h1 b1 "java/lang/Throwable" "backtrace" "Ljava/lang/Object;" .null := D1 (Or.inl (wq hw 216 rfl)) (ty := (.object "java/lang/Object")) (by decide)
  have F_depth_b1 : Fld Z h1 b1 "java/lang/Throwable" "depth" "I" (.int (0 : Int32)) := D1 (Or.inl (wq hw 217 rfl)) (ty := .int) (by decide)
  refine GlW.pre (B := T1.setTop (mkF m 4 #[.val (.int p1)] [(.ref b1), (.ref b1)])) (fun _ k => st1 _ (XS.dup X1.here hx rfl (hb hby d1_3) rfl rfl k)) ?_
  obtain ⟨T2, h2, X2, e2, E2, A2, D2, -, st2⟩ := newO X1 hx hZ hown (wq hw 7 rfl) (wq hw 8 rfl) (wq hw 9 rfl) e1 (g := (mkF m 4 #[.val (.int p1)] [(.ref b1), (.ref b1)])) rfl (hb hby d1_4) (by decide) (by decide)
  obtain ⟨b2, g2⟩ : ∃ z, z = h1.size := ⟨_, rfl⟩
  rw [← g2] at A2 D2 st2
  have ne_b1_b2 : b1 ≠ b2 := Nat.ne_of_lt (Nat.lt_of_lt_of_le E_b1.lt (Nat.le_of_eq g2.symm))
  have g_b2 : n0 ≤ b2 := Nat.le_trans Z0 (Nat.le_of_eq g2.symm)
  have sz_b2 : h0.size ≤ b2 := Nat.le_trans K0.1 (Nat.le_of_eq g2.symm)
  have CR_q := CR.trans (CHr.ext E2 CR.1)
  have Z0 := Nat.le_trans Z0 E2.1
  have Od := Od.ext E2
  have K0 := K0.ext E2
  have U_b1 := Unt.ext E2 U_b1
  have E_b1 := E_b1.ext E2
  have F_cause_b1 := F_cause_b1.ext E2
  have F_stackTrace_b1 := F_stackTrace_b1.ext E2
  have F_suppressedExceptions_b1 := F_suppressedExceptions_b1.ext E2
  have F_detailMessage_b1 := F_detailMessage_b1.ext E2
  have F_backtrace_b1 := F_backtrace_b1.ext E2
  have CR := CR_q
  have hk2 := Nat.le_trans hk1 E2.1
  have E_b2 := A2
  have F_value_b2 : Fld Z h2 b2 "java/lang/AbstractStringBuilder" "value" "[B" .null := D2 (Or.inl (wq hw 26 rfl)) (ty := (.array .byte)) (by decide)
  have F_coder_b2 : Fld Z h2 b2 "java/lang/AbstractStringBuilder" "coder" "B" (.int (0 : Int32)) := D2 (Or.inl (wq hw 28 rfl)) (ty := .byte) (by decide)
  have F_count_b2 : Fld Z h2 b2 "java/lang/AbstractStringBuilder" "count" "I" (.int (0 : Int32)) := D2 (Or.inl (wq hw 59 rfl)) (ty := .int) (by decide)
  refine GlW.pre (B := T2.setTop (mkF m 8 #[.val (.int p1)] [(.ref b2), (.ref b2), (.ref b1), (.ref b1)])) (fun _ k => st2 _ (XS.dup X2.here hx rfl (hb hby d1_7) rfl rfl k)) ?_
  obtain ⟨rv3, _, ⟨T3, L3, k3, n3⟩, -, X3, ⟨Lc3, hQ3, l3, y3, z3⟩, st3⟩ := X2.specialBack hx (y := (⟨"java/lang/StringBuilder", "<init>", "()V"⟩ : MethodName)) rfl hown (mvT hZ (wq hw 10 rfl)) (mvT hZ (wq hw 11 rfl)) (mvT hZ (wq hw 12 rfl)) (by decide) (backOf (W := 3) (sbInit l Z a0 hw [] b2 G1 h2 n0 Z0 g_b2 E_b2 F_value_b2 F_coder_b2 F_count_b2 O2 P5 Od) hZ (wq hw 12 rfl) (wq hw 9 rfl) (by decide) (by decide)) (g := (mkF m 8 #[.val (.int p1)] [(.ref b2), (.ref b2), (.ref b1), (.ref b1)])) rfl (by rw [hml]; rfl) (Steps.refl _) (a := b2) (argsL := []) (rest := [(.ref b2), (.ref b1), (.ref b1)]) (lenOf pd_24 rfl) rfl (by show 2 * 0 + _ ≤ _; exact Nat.le_of_eq rfl) (hb hby d1_8) (fun _ _ => ⟨rfl, e2, (by decide : 2 + 1 ≤ _), (by decide : 10 + 16 ≤ _)⟩)
  dsimp only [Pt.U, Pt.locs, Pt.cells, Pt.slots] at X3 l3 y3 z3 st3 hQ3
  have X3 := own_reb X3 l3 y3 z3
  obtain ⟨t_3, kt_3, rfl, N3q, K3, nz_t_3, sb_3⟩ := hQ3
  have N3 := Fr.app N0 N3q
  have ne_b1_t_3 : b1 ≠ t_3 := Nat.ne_of_lt (Nat.lt_of_lt_of_le E_b1.lt nz_t_3)
  have ne_b2_t_3 : b2 ≠ t_3 := Nat.ne_of_lt (Nat.lt_of_lt_of_le E_b2.lt nz_t_3)
  have g_t_3 : n0 ≤ t_3 := Nat.le_trans Z0 nz_t_3
  have sz_t_3 : h0.size ≤ t_3 := Nat.le_trans K0.1 nz_t_3
  have Sf_t_3 : Safe Z EL1 s.vm h2 t_3 := Safe.new nz_t_3
  have CR_q := CR.trans (CHr.keep K3 (sfS (Safe.exa hZ.alike E_b2 (by decide) (by decide)) sf0) CR.1)
  have Sf_t_3_q := Safe.keep K3 (sfS (Safe.exa hZ.alike E_b2 (by decide) (by decide)) sf0) CR.1 Sf_t_3
  have Z0 := Nat.le_trans Z0 K3.1
  have Od := Od.keep K3 (allS g_b2 all0)
  have K0 := K0.trans K3 (allS (Or.inr sz_b2) all0)
  have U_b1 := Unt.keep K3 (ninS ne_b1_b2 nin0) U_b1
  have E_b1 := E_b1.keep K3
  have F_cause_b1 := F_cause_b1.keep K3 (ninS ne_b1_b2 nin0)
  have F_stackTrace_b1 := F_stackTrace_b1.keep K3 (ninS ne_b1_b2 nin0)
  have F_suppressedExceptions_b1 := F_suppressedExceptions_b1.keep K3 (ninS ne_b1_b2 nin0)
  have F_detailMessage_b1 := F_detailMessage_b1.keep K3 (ninS ne_b1_b2 nin0)
  have F_backtrace_b1 := F_backtrace_b1.keep K3 (ninS ne_b1_b2 nin0)
  have E_b2 := E_b2.keep K3
  have CR := CR_q
  have Sf_t_3 := Sf_t_3_q
  have hk3 := Nat.le_trans hk2 K3.1
  refine GlW.pre (B := T3.setTop (mkF m 11 #[.val (.int p1)] [(.ref b2), (.ref b1), (.ref b1)])) (fun _ k => st3.trans k) ?_
  obtain ⟨la4, T4, h4, kk4, lb4, kc4, X4, e4, E4, hS4, hk4, hZ4, ho4, E_la4, F_coder_la4, F_value_la4, V_lb4, lt4, ltb4, C4, Li4, sn4, st4⟩ := ldcCH X3 hx hZ hown (wq hw 29 rfl) (string_atoms hw) rfl hS0 hk3 hEL (List.mem_of_getElem? (i := 0) rfl) CR.1 (vs := [(.int (108 : Int32)), (.int (111 : Int32)), (.int (110 : Int32)), (.int (103 : Int32)), (.int (101 : Int32)), (.int (114 : Int32)), (.int (32 : Int32)), (.int (116 : Int32)), (.int (104 : Int32)), (.int (97 : Int32)), (.int (110 : Int32)), (.int (32 : Int32))]) (z := 12) ⟨by decide, by decide⟩ (by decide) (by decide) (g := (mkF m 11 #[.val (.int p1)] [(.ref b2), (.ref b1), (.ref b1)])) rfl (hb hby d1_11) (n := 48) (by decide) (by decide) (by decide) (by decide)
  have CR_q := CR.trans C4
  have Sf_t_3_q := C4.safe sb_3.2.2.2.2.1.lt Sf_t_3
  have Z0 := Nat.le_trans Z0 E4.1
  have Od := Od.ext E4
  have K0 := K0.ext E4
  have U_b1 := Unt.ext E4 U_b1
  have E_b1 := E_b1.ext E4
  have F_cause_b1 := F_cause_b1.ext E4
  have F_stackTrace_b1 := F_stackTrace_b1.ext E4
  have F_suppressedExceptions_b1 := F_suppressedExceptions_b1.ext E4
  have F_detailMessage_b1 := F_detailMessage_b1.ext E4
  have F_backtrace_b1 := F_backtrace_b1.ext E4
  have E_b2 := E_b2.ext E4
  have sb_3 := sb_3.ext E4
  have CR := CR_q
  have Sf_t_3 := Sf_t_3_q
  have sn4_t_3 := sn4 t_3 Sf_t_3
  have sn4_b1 := sn4 b1 (Safe.exa hZ4.alike E_b1 (by decide) (by decide))
  have sn4_b2 := sn4 b2 (Safe.exa hZ4.alike E_b2 (by decide) (by decide))
  refine GlW.pre (B := T4.setTop (mkF m 13 #[.val (.int p1)] [(.ref la4), (.ref b2), (.ref b1), (.ref b1)])) (fun _ k => st4 _ k) ?_
  obtain ⟨cq5, kq5, q5a, q5b, q5c⟩ := isOf hZ4 e4 E_b2
  obtain ⟨rv5, _, ⟨T5, L5, k5, n5⟩, -, X5, ⟨Lc5, hQ5, l5, y5, z5⟩, st5⟩ := X4.virtualBack hx (y := (⟨"java/lang/StringBuilder", "append", "(Ljava/lang/String;)Ljava/lang/StringBuilder;"⟩ : MethodName)) (z := (⟨"java/lang/StringBuilder", "append", "(Ljava/lang/String;)Ljava/lang/StringBuilder;"⟩ : MethodName)) ho4 (mvT hZ4 (wq hw 35 rfl)) (mvT hZ4 (wq hw 36 rfl)) (notFace_of_selects (args := #[]) (mvT hZ4 (wq hw 38 rfl))) (mvT hZ4 (wq hw 38 rfl)) (mvT hZ4 (wq hw 37 rfl)) (by decide) (backOf (W := 2) (sbApp l Z a0 hw [] b2 la4 t_3 kt_3 16 [] lb4 _ preL G1 h4 n0 Z0 sb_3 (pre_s E_la4 F_value_la4 F_coder_la4 V_lb4) g_b2 g_t_3 (by decide) ne_b2_t_3 O2 P5 Od) hZ4 (wq hw 39 rfl) (wq hw 9 rfl) (by decide) (by decide)) q5a q5c (g := (mkF m 13 #[.val (.int p1)] [(.ref la4), (.ref b2), (.ref b1), (.ref b1)])) rfl (by rw [hml]; rfl) (Steps.refl _) (argsL := [(.ref la4)]) (rest := [(.ref b1), (.ref b1)]) (lenOf pd_25 rfl) rfl (by show 2 * 0 + _ ≤ _; exact Nat.le_of_eq rfl) (hb hby d1_13) (fun _ _ => ⟨rfl, e4, (by decide : 5 + 0 ≤ _), (by decide : 78 + 0 ≤ _)⟩)
  dsimp only [Pt.U, Pt.locs, Pt.cells, Pt.slots] at X5 l5 y5 z5 st5 hQ5
  have X5 := own_reb X5 l5 y5 z5
  obtain ⟨rfl, N5q, K5, sb_5⟩ := hQ5
  have N5 := Fr.app N3 N5q
  have CR_q := CR.trans (CHr.keep K5 (sfS (Safe.exa hZ4.alike E_b2 (by decide) (by decide)) (sfS Sf_t_3 sf0)) CR.1)
  have Sf_t_3_q := Safe.keep K5 (sfS (Safe.exa hZ4.alike E_b2 (by decide) (by decide)) (sfS Sf_t_3 sf0)) CR.1 Sf_t_3
  have Z0 := Nat.le_trans Z0 K5.1
  have Od := Od.keep K5 (allS g_b2 (allS g_t_3 all0))
  have K0 := K0.trans K5 (allS (Or.inr sz_b2) (allS (Or.inr sz_t_3) all0))
  have U_b1 := Unt.keep K5 (ninS ne_b1_b2 (ninS ne_b1_t_3 nin0)) U_b1
  have E_b1 := E_b1.keep K5
  have F_cause_b1 := F_cause_b1.keep K5 (ninS ne_b1_b2 (ninS ne_b1_t_3 nin0))
  have F_stackTrace_b1 := F_stackTrace_b1.keep K5 (ninS ne_b1_b2 (ninS ne_b1_t_3 nin0))
  have F_suppressedExceptions_b1 := F_suppressedExceptions_b1.keep K5 (ninS ne_b1_b2 (ninS ne_b1_t_3 nin0))
  have F_detailMessage_b1 := F_detailMessage_b1.keep K5 (ninS ne_b1_b2 (ninS ne_b1_t_3 nin0))
  have F_backtrace_b1 := F_backtrace_b1.keep K5 (ninS ne_b1_b2 (ninS ne_b1_t_3 nin0))
  have E_b2 := E_b2.keep K5
  have CR := CR_q
  have Sf_t_3 := Sf_t_3_q
  have hk5 := Nat.le_trans hk4 K5.1
  refine GlW.pre (B := T5.setTop (mkF m 17 #[.val (.int p1)] [(.int p1), (.ref b2), (.ref b1), (.ref b1)])) (fun _ k => st5.trans (XS.iloadN X5.here hx rfl (hb hby d1_16) rfl k)) ?_
  by_cases hz : 12 + szN p1 ≤ 16
  · obtain ⟨cq6, kq6, q6a, q6b, q6c⟩ := isOf hZ4 rfl E_b2
    obtain ⟨rv6, _, ⟨T6, L6, k6, n6⟩, -, X6, ⟨Lc6, hQ6, l6, y6, z6⟩, st6⟩ := X5.virtualBack hx (y := (⟨"java/lang/StringBuilder", "append", "(I)Ljava/lang/StringBuilder;"⟩ : MethodName)) (z := (⟨"java/lang/StringBuilder", "append", "(I)Ljava/lang/StringBuilder;"⟩ : MethodName)) ho4 (mvT hZ4 (wq hw 85 rfl)) (mvT hZ4 (wq hw 86 rfl)) (notFace_of_selects (args := #[]) (mvT hZ4 (wq hw 88 rfl))) (mvT hZ4 (wq hw 88 rfl)) (mvT hZ4 (wq hw 87 rfl)) (by decide) (backOf (W := 2) (sbAppI l Z a0 hw [] b2 p1 t_3 kt_3 preL G1 sT dA dB DA DB T5.heap n0 Z0 sb_5 g_b2 g_t_3 ne_b2_t_3 hz O2 P5 Od tbA onA tbB onB) hZ4 (wq hw 89 rfl) (wq hw 9 rfl) (by decide) (by decide)) q6a q6c (g := (mkF m 17 #[.val (.int p1)] [(.int p1), (.ref b2), (.ref b1), (.ref b1)])) rfl (by rw [hml]; rfl) (Steps.refl _) (argsL := [(.int p1)]) (rest := [(.ref b1), (.ref b1)]) (lenOf pd_26 rfl) rfl (by show 2 * 0 + _ ≤ _; exact Nat.le_of_eq rfl) (hb hby d1_17) (fun _ _ => ⟨rfl, rfl, (by decide : 5 + 0 ≤ _), (by decide : 78 + 0 ≤ _)⟩)
    dsimp only [Pt.U, Pt.locs, Pt.cells, Pt.slots] at X6 l6 y6 z6 st6 hQ6
    have X6 := own_reb X6 l6 y6 z6
    obtain ⟨rfl, N6q, K6, sb_6⟩ := hQ6
    have N6 := Fr.app N5 N6q
    have CR_q := CR.trans (CHr.keep K6 (sfS (Safe.exa hZ4.alike E_b2 (by decide) (by decide)) (sfS Sf_t_3 sf0)) CR.1)
    have Sf_t_3_q := Safe.keep K6 (sfS (Safe.exa hZ4.alike E_b2 (by decide) (by decide)) (sfS Sf_t_3 sf0)) CR.1 Sf_t_3
    have Z0 := Nat.le_trans Z0 K6.1
    have Od := Od.keep K6 (allS g_b2 (allS g_t_3 all0))
    have K0 := K0.trans K6 (allS (Or.inr sz_b2) (allS (Or.inr sz_t_3) all0))
    have U_b1 := Unt.keep K6 (ninS ne_b1_b2 (ninS ne_b1_t_3 nin0)) U_b1
    have E_b1 := E_b1.keep K6
    have F_cause_b1 := F_cause_b1.keep K6 (ninS ne_b1_b2 (ninS ne_b1_t_3 nin0))
    have F_stackTrace_b1 := F_stackTrace_b1.keep K6 (ninS ne_b1_b2 (ninS ne_b1_t_3 nin0))
    have F_suppressedExceptions_b1 := F_suppressedExceptions_b1.keep K6 (ninS ne_b1_b2 (ninS ne_b1_t_3 nin0))
    have F_detailMessage_b1 := F_detailMessage_b1.keep K6 (ninS ne_b1_b2 (ninS ne_b1_t_3 nin0))
    have F_backtrace_b1 := F_backtrace_b1.keep K6 (ninS ne_b1_b2 (ninS ne_b1_t_3 nin0))
    have E_b2 := E_b2.keep K6
    have CR := CR_q
    have Sf_t_3 := Sf_t_3_q
    have hk6 := Nat.le_trans hk5 K6.1
    refine GlW.pre (B := T6.setTop (mkF m 20 #[.val (.int p1)] [(.ref b2), (.ref b1), (.ref b1)])) (fun _ k => st6.trans k) ?_
    obtain ⟨la7, T7, h7, kk7, lb7, kc7, X7, e7, E7, hS7, hk7, hZ7, ho7, E_la7, F_coder_la7, F_value_la7, V_lb7, lt7, ltb7, C7, Li7, sn7, st7⟩ := ldcCH X6 hx hZ4 ho4 (wq hw 107 rfl) (string_atoms hw) rfl hS4 hk6 hEL (List.mem_of_getElem? (i := 1) rfl) CR.1 (vs := [(.int (32 : Int32)), (.int (98 : Int32)), (.int (121 : Int32)), (.int (116 : Int32)), (.int (101 : Int32)), (.int (115 : Int32))]) (z := 6) ⟨by decide, by decide⟩ (by decide) (by decide) (g := (mkF m 20 #[.val (.int p1)] [(.ref b2), (.ref b1), (.ref b1)])) rfl (hb hby d1_20) (n := 24) (by decide) (by decide) (by decide) (by decide)
    have CR_q := CR.trans C7
    have Sf_t_3_q := C7.safe sb_6.2.2.2.2.1.lt Sf_t_3
    have Z0 := Nat.le_trans Z0 E7.1
    have Od := Od.ext E7
    have K0 := K0.ext E7
    have U_b1 := Unt.ext E7 U_b1
    have E_b1 := E_b1.ext E7
    have F_cause_b1 := F_cause_b1.ext E7
    have F_stackTrace_b1 := F_stackTrace_b1.ext E7
    have F_suppressedExceptions_b1 := F_suppressedExceptions_b1.ext E7
    have F_detailMessage_b1 := F_detailMessage_b1.ext E7
    have F_backtrace_b1 := F_backtrace_b1.ext E7
    have E_b2 := E_b2.ext E7
    have sb_6 := sb_6.ext E7
    have CR := CR_q
    have Sf_t_3 := Sf_t_3_q
    have sn7_t_3 := sn7 t_3 Sf_t_3
    have sn7_b1 := sn7 b1 (Safe.exa hZ7.alike E_b1 (by decide) (by decide))
    have sn7_b2 := sn7 b2 (Safe.exa hZ7.alike E_b2 (by decide) (by decide))
    refine GlW.pre (B := T7.setTop (mkF m 22 #[.val (.int p1)] [(.ref la7), (.ref b2), (.ref b1), (.ref b1)])) (fun _ k => st7 _ k) ?_
    obtain ⟨cq8, kq8, q8a, q8b, q8c⟩ := isOf hZ7 e7 E_b2
    obtain ⟨rv8, _, ⟨T8, L8, k8, n8⟩, -, X8, ⟨Lc8, hQ8, l8, y8, z8⟩, st8⟩ := X7.virtualBack hx (y := (⟨"java/lang/StringBuilder", "append", "(Ljava/lang/String;)Ljava/lang/StringBuilder;"⟩ : MethodName)) (z := (⟨"java/lang/StringBuilder", "append", "(Ljava/lang/String;)Ljava/lang/StringBuilder;"⟩ : MethodName)) ho7 (mvT hZ7 (wq hw 35 rfl)) (mvT hZ7 (wq hw 36 rfl)) (notFace_of_selects (args := #[]) (mvT hZ7 (wq hw 38 rfl))) (mvT hZ7 (wq hw 38 rfl)) (mvT hZ7 (wq hw 37 rfl)) (by decide) (backOf (W := 2) (sbAppG l Z a0 hw [] b2 la7 t_3 kt_3 (preL ++ decL p1) lb7 _ sufL G1 h7 n0 Z0 sb_6 (suf_s E_la7 F_value_la7 F_coder_la7 V_lb7) g_b2 (by have := sz_bnd p1; rw [pd_len]; show 16 < _ + 6; omega) (by have := sz_bnd p1; rw [pd_len]; show _ + 6 ≤ 34; omega) (Ne.symm sn7_b2.1) (Ne.symm sn7_b2.2) O2 P5 Od) hZ7 (wq hw 39 rfl) (wq hw 9 rfl) (by decide) (by decide)) q8a q8c (g := (mkF m 22 #[.val (.int p1)] [(.ref la7), (.ref b2), (.ref b1), (.ref b1)])) rfl (by rw [hml]; rfl) (Steps.refl _) (argsL := [(.ref la7)]) (rest := [(.ref b1), (.ref b1)]) (lenOf pd_25 rfl) rfl (by show 2 * 0 + _ ≤ _; exact Nat.le_of_eq rfl) (hb hby d1_22) (fun _ _ => ⟨rfl, e7, (by decide : 7 + 1 ≤ _), (by decide : 106 + 34 ≤ _)⟩)
    dsimp only [Pt.U, Pt.locs, Pt.cells, Pt.slots] at X8 l8 y8 z8 st8 hQ8
    have X8 := own_reb X8 l8 y8 z8
    obtain ⟨tt_8, kk_8, rfl, N8q, K8, nz_tt_8, sb_8⟩ := hQ8
    have N8 := Fr.app N6 N8q
    have Sf_tt_8 : Safe Z EL1 T7.vm h7 tt_8 := Safe.new nz_tt_8
    have CR_q := CR.trans (CHr.keep K8 (sfS (Safe.exa hZ7.alike E_b2 (by decide) (by decide)) sf0) CR.1)
    have Z0 := Nat.le_trans Z0 K8.1
    have Od := Od.keep K8 (allS g_b2 all0)
    have K0 := K0.trans K8 (allS (Or.inr sz_b2) all0)
    have U_b1 := Unt.keep K8 (ninS ne_b1_b2 nin0) U_b1
    have E_b1 := E_b1.keep K8
    have F_cause_b1 := F_cause_b1.keep K8 (ninS ne_b1_b2 nin0)
    have F_stackTrace_b1 := F_stackTrace_b1.keep K8 (ninS ne_b1_b2 nin0)
    have F_suppressedExceptions_b1 := F_suppressedExceptions_b1.keep K8 (ninS ne_b1_b2 nin0)
    have F_detailMessage_b1 := F_detailMessage_b1.keep K8 (ninS ne_b1_b2 nin0)
    have F_backtrace_b1 := F_backtrace_b1.keep K8 (ninS ne_b1_b2 nin0)
    have E_b2 := E_b2.keep K8
    have CR := CR_q
    have hk8 := Nat.le_trans hk7 K8.1
    refine GlW.pre (B := T8.setTop (mkF m 25 #[.val (.int p1)] [(.ref b2), (.ref b1), (.ref b1)])) (fun _ k => st8.trans k) ?_
    obtain ⟨cq9, kq9, q9a, q9b, q9c⟩ := isOf hZ7 rfl E_b2
    obtain ⟨rv9, _, ⟨T9, L9, k9, n9⟩, -, X9, ⟨Lc9, hQ9, l9, y9, z9⟩, st9⟩ := X8.virtualBack hx (y := (⟨"java/lang/StringBuilder", "toString", "()Ljava/lang/String;"⟩ : MethodName)) (z := (⟨"java/lang/StringBuilder", "toString", "()Ljava/lang/String;"⟩ : MethodName)) ho7 (mvT hZ7 (wq hw 131 rfl)) (mvT hZ7 (wq hw 132 rfl)) (notFace_of_selects (args := #[]) (mvT hZ7 (wq hw 134 rfl))) (mvT hZ7 (wq hw 134 rfl)) (mvT hZ7 (wq hw 133 rfl)) (by decide) (backOf (W := 2) (sbToS l Z a0 hw [] b2 tt_8 kk_8 34 (msgL p1) G1 T8.heap n0 Z0 sb_8 (by have := sz_bnd p1; rw [msg_len]; omega) (by decide) O2 P5 Od) hZ7 (wq hw 135 rfl) (wq hw 9 rfl) (by decide) (by decide)) q9a q9c (g := (mkF m 25 #[.val (.int p1)] [(.ref b2), (.ref b1), (.ref b1)])) rfl (by rw [hml]; rfl) (Steps.refl _) (argsL := []) (rest := [(.ref b1), (.ref b1)]) (lenOf pd_27 rfl) rfl (by show 2 * 0 + _ ≤ _; exact Nat.le_of_eq rfl) (hb hby d1_25) (fun _ _ => ⟨rfl, rfl, (by decide : 8 + 2 ≤ _), (by decide : 140 + 68 ≤ _)⟩)
    dsimp only [Pt.U, Pt.locs, Pt.cells, Pt.slots] at X9 l9 y9 z9 st9 hQ9
    have X9 := own_reb X9 l9 y9 z9
    obtain ⟨x_9, tt_9, kk_9, rfl, N9q, K9, nz_x_9, nz_tt_9, sv_9⟩ := hQ9
    have N9 := Fr.app N8 N9q
    have ne_b1_x_9 : b1 ≠ x_9 := Nat.ne_of_lt (Nat.lt_of_lt_of_le E_b1.lt nz_x_9)
    have sz_x_9 : h0.size ≤ x_9 := Nat.le_trans K0.1 nz_x_9
    have ne_b1_tt_9 : b1 ≠ tt_9 := Nat.ne_of_lt (Nat.lt_of_lt_of_le E_b1.lt nz_tt_9)
    have CR_q := CR.trans (CHr.keep K9 sf0 CR.1)
    have Z0 := Nat.le_trans Z0 K9.1
    have Od := Od.keep K9 all0
    have K0 := K0.trans K9 (fun _ q => nomatch q)
    have U_b1 := Unt.keep K9 nin0 U_b1
    have E_b1 := E_b1.keep K9
    have F_cause_b1 := F_cause_b1.keep K9 nin0
    have F_stackTrace_b1 := F_stackTrace_b1.keep K9 nin0
    have F_suppressedExceptions_b1 := F_suppressedExceptions_b1.keep K9 nin0
    have F_detailMessage_b1 := F_detailMessage_b1.keep K9 nin0
    have F_backtrace_b1 := F_backtrace_b1.keep K9 nin0
    have CR := CR_q
    have hk9 := Nat.le_trans hk8 K9.1
    refine GlW.pre (B := T9.setTop (mkF m 28 #[.val (.int p1)] [(.ref x_9), (.ref b1), (.ref b1)])) (fun _ k => st9.trans k) ?_
    obtain ⟨rv10, _, ⟨T10, L10, k10, n10⟩, -, X10, ⟨Lc10, hQ10, l10, y10, z10⟩, st10⟩ := X9.specialBack hx (y := (⟨"java/io/IOException", "<init>", "(Ljava/lang/String;)V"⟩ : MethodName)) rfl ho7 (mvT hZ7 (wq hw 168 rfl)) (mvT hZ7 (wq hw 169 rfl)) (mvT hZ7 (wq hw 170 rfl)) (by decide) (backOfKL (W := 1) (ioeInit l Z a0 hw [] b1 x_9 uA sA T9.heap n0 Z0 g_b1 E_b1 U_b1 F_cause_b1 F_stackTrace_b1 F_suppressedExceptions_b1 F_backtrace_b1 F_detailMessage_b1 Od O6 O7 hlt) hZ7 (wq hw 170 rfl) (wq hw 6 rfl) (by decide) (by decide) (Vm.MethodsKnown.alikeC (hZi.alike.symm.trans hZ7.alike) hK.1) (Vm.FramesKnown.alikeC (hZi.alike.symm.trans hZ7.alike) hK.2)) (g := (mkF m 28 #[.val (.int p1)] [(.ref x_9), (.ref b1), (.ref b1)])) rfl (by rw [hml]; rfl) (Steps.refl _) (a := b1) (argsL := [(.ref x_9)]) (rest := [(.ref b1)]) (lenOf pd_1 rfl) rfl (by show 2 * 0 + _ ≤ _; exact Nat.le_of_eq rfl) (hb hby d1_28) (fun _ _ => ⟨rfl, rfl, (by decide : 10 + 1 ≤ _), (by decide : 208 + 2752 ≤ _)⟩)
    dsimp only [Pt.U, Pt.locs, Pt.cells, Pt.slots] at X10 l10 y10 z10 st10 hQ10
    have X10 := own_reb X10 l10 y10 z10
    obtain ⟨rfl, N10q, K10, U_10, Fm_10, Fz_10⟩ := hQ10
    have N10 := Fr.app N9 N10q
    have CR_q := CR.trans (CHr.keep K10 (sfS (Safe.exa hZ7.alike E_b1 (by decide) (by decide)) sf0) CR.1)
    have K0 := K0.trans K10 (allS (Or.inr sz_b1) all0)
    have E_b1 := E_b1.keep K10
    have CR := CR_q
    have hk10 := Nat.le_trans hk9 K10.1
    have svE := StrV.keep sv_9 K10 (ninS (Ne.symm ne_b1_x_9) nin0) (ninS (Ne.symm ne_b1_tt_9) nin0)
    refine GlW.pre (B := T10.setTop (mkF m 31 #[.val (.int p1)] [(.ref b1)])) (fun _ k => st10.trans k) ?_
    refine GlW.out X10 hsh rfl hS7 hk10 hZ7 hEL CR (v := some (.ref b1)) (fun h => by rw [hret] at h; cases h) hlk (fun fs hr => retOut X10 hx hret rfl (Or.inr (Or.inr (Or.inr (Or.inr ⟨rfl, rfl, rfl⟩)))) (hb hby d1_31) hr) ?_ (by decide) (by decide)
    show Q_tooLong Z _ _ _ _ _ _ _ _ _ h0 n0 _ T10.heap _
    exact ⟨b1, x_9, tt_9, kk_9, rfl, N10, K0, sz_b1, sz_x_9, E_b1, U_10, Fm_10, Fz_10, svE⟩
  · obtain ⟨cq11, kq11, q11a, q11b, q11c⟩ := isOf hZ4 rfl E_b2
    obtain ⟨rv11, _, ⟨T11, L11, k11, n11⟩, -, X11, ⟨Lc11, hQ11, l11, y11, z11⟩, st11⟩ := X5.virtualBack hx (y := (⟨"java/lang/StringBuilder", "append", "(I)Ljava/lang/StringBuilder;"⟩ : MethodName)) (z := (⟨"java/lang/StringBuilder", "append", "(I)Ljava/lang/StringBuilder;"⟩ : MethodName)) ho4 (mvT hZ4 (wq hw 85 rfl)) (mvT hZ4 (wq hw 86 rfl)) (notFace_of_selects (args := #[]) (mvT hZ4 (wq hw 88 rfl))) (mvT hZ4 (wq hw 88 rfl)) (mvT hZ4 (wq hw 87 rfl)) (by decide) (backOf (W := 2) (sbAppJ l Z a0 hw [] b2 p1 t_3 kt_3 preL G1 sT dA dB DA DB T5.heap n0 Z0 sb_5 g_b2 (Nat.lt_of_not_le hz) (by have := sz_bnd p1; show 12 + szN p1 ≤ 34; omega) O2 P5 Od tbA onA tbB onB) hZ4 (wq hw 89 rfl) (wq hw 9 rfl) (by decide) (by decide)) q11a q11c (g := (mkF m 17 #[.val (.int p1)] [(.int p1), (.ref b2), (.ref b1), (.ref b1)])) rfl (by rw [hml]; rfl) (Steps.refl _) (argsL := [(.int p1)]) (rest := [(.ref b1), (.ref b1)]) (lenOf pd_26 rfl) rfl (by show 2 * 0 + _ ≤ _; exact Nat.le_of_eq rfl) (hb hby d1_17) (fun _ _ => ⟨rfl, rfl, (by decide : 5 + 1 ≤ _), (by decide : 78 + 34 ≤ _)⟩)
    dsimp only [Pt.U, Pt.locs, Pt.cells, Pt.slots] at X11 l11 y11 z11 st11 hQ11
    have X11 := own_reb X11 l11 y11 z11
    obtain ⟨tt_11, kk_11, rfl, N11q, K11, nz_tt_11, sb_11⟩ := hQ11
    have N11 := Fr.app N5 N11q
    have ne_b1_tt_11 : b1 ≠ tt_11 := Nat.ne_of_lt (Nat.lt_of_lt_of_le E_b1.lt nz_tt_11)
    have ne_b2_tt_11 : b2 ≠ tt_11 := Nat.ne_of_lt (Nat.lt_of_lt_of_le E_b2.lt nz_tt_11)
    have g_tt_11 : n0 ≤ tt_11 := Nat.le_trans Z0 nz_tt_11
    have sz_tt_11 : h0.size ≤ tt_11 := Nat.le_trans K0.1 nz_tt_11
    have Sf_tt_11 : Safe Z EL1 T4.vm T5.heap tt_11 := Safe.new nz_tt_11
    have CR_q := CR.trans (CHr.keep K11 (sfS (Safe.exa hZ4.alike E_b2 (by decide) (by decide)) sf0) CR.1)
    have Sf_tt_11_q := Safe.keep K11 (sfS (Safe.exa hZ4.alike E_b2 (by decide) (by decide)) sf0) CR.1 Sf_tt_11
    have Z0 := Nat.le_trans Z0 K11.1
    have Od := Od.keep K11 (allS g_b2 all0)
    have K0 := K0.trans K11 (allS (Or.inr sz_b2) all0)
    have U_b1 := Unt.keep K11 (ninS ne_b1_b2 nin0) U_b1
    have E_b1 := E_b1.keep K11
    have F_cause_b1 := F_cause_b1.keep K11 (ninS ne_b1_b2 nin0)
    have F_stackTrace_b1 := F_stackTrace_b1.keep K11 (ninS ne_b1_b2 nin0)
    have F_suppressedExceptions_b1 := F_suppressedExceptions_b1.keep K11 (ninS ne_b1_b2 nin0)
    have F_detailMessage_b1 := F_detailMessage_b1.keep K11 (ninS ne_b1_b2 nin0)
    have F_backtrace_b1 := F_backtrace_b1.keep K11 (ninS ne_b1_b2 nin0)
    have E_b2 := E_b2.keep K11
    have CR := CR_q
    have Sf_tt_11 := Sf_tt_11_q
    have hk11 := Nat.le_trans hk5 K11.1
    refine GlW.pre (B := T11.setTop (mkF m 20 #[.val (.int p1)] [(.ref b2), (.ref b1), (.ref b1)])) (fun _ k => st11.trans k) ?_
    obtain ⟨la12, T12, h12, kk12, lb12, kc12, X12, e12, E12, hS12, hk12, hZ12, ho12, E_la12, F_coder_la12, F_value_la12, V_lb12, lt12, ltb12, C12, Li12, sn12, st12⟩ := ldcCH X11 hx hZ4 ho4 (wq hw 107 rfl) (string_atoms hw) rfl hS4 hk11 hEL (List.mem_of_getElem? (i := 1) rfl) CR.1 (vs := [(.int (32 : Int32)), (.int (98 : Int32)), (.int (121 : Int32)), (.int (116 : Int32)), (.int (101 : Int32)), (.int (115 : Int32))]) (z := 6) ⟨by decide, by decide⟩ (by decide) (by decide) (g := (mkF m 20 #[.val (.int p1)] [(.ref b2), (.ref b1), (.ref b1)])) rfl (hb hby d1_20) (n := 24) (by decide) (by decide) (by decide) (by decide)
    have CR_q := CR.trans C12
    have Sf_tt_11_q := C12.safe sb_11.2.2.2.2.1.lt Sf_tt_11
    have Z0 := Nat.le_trans Z0 E12.1
    have Od := Od.ext E12
    have K0 := K0.ext E12
    have U_b1 := Unt.ext E12 U_b1
    have E_b1 := E_b1.ext E12
    have F_cause_b1 := F_cause_b1.ext E12
    have F_stackTrace_b1 := F_stackTrace_b1.ext E12
    have F_suppressedExceptions_b1 := F_suppressedExceptions_b1.ext E12
    have F_detailMessage_b1 := F_detailMessage_b1.ext E12
    have F_backtrace_b1 := F_backtrace_b1.ext E12
    have E_b2 := E_b2.ext E12
    have sb_11 := sb_11.ext E12
    have CR := CR_q
    have Sf_tt_11 := Sf_tt_11_q
    have sn12_tt_11 := sn12 tt_11 Sf_tt_11
    have sn12_b1 := sn12 b1 (Safe.exa hZ12.alike E_b1 (by decide) (by decide))
    have sn12_b2 := sn12 b2 (Safe.exa hZ12.alike E_b2 (by decide) (by decide))
    refine GlW.pre (B := T12.setTop (mkF m 22 #[.val (.int p1)] [(.ref la12), (.ref b2), (.ref b1), (.ref b1)])) (fun _ k => st12 _ k) ?_
    obtain ⟨cq13, kq13, q13a, q13b, q13c⟩ := isOf hZ12 e12 E_b2
    obtain ⟨rv13, _, ⟨T13, L13, k13, n13⟩, -, X13, ⟨Lc13, hQ13, l13, y13, z13⟩, st13⟩ := X12.virtualBack hx (y := (⟨"java/lang/StringBuilder", "append", "(Ljava/lang/String;)Ljava/lang/StringBuilder;"⟩ : MethodName)) (z := (⟨"java/lang/StringBuilder", "append", "(Ljava/lang/String;)Ljava/lang/StringBuilder;"⟩ : MethodName)) ho12 (mvT hZ12 (wq hw 35 rfl)) (mvT hZ12 (wq hw 36 rfl)) (notFace_of_selects (args := #[]) (mvT hZ12 (wq hw 38 rfl))) (mvT hZ12 (wq hw 38 rfl)) (mvT hZ12 (wq hw 37 rfl)) (by decide) (backOf (W := 2) (sbApp l Z a0 hw [] b2 la12 tt_11 kk_11 34 (preL ++ decL p1) lb12 _ sufL G1 h12 n0 Z0 sb_11 (suf_s E_la12 F_value_la12 F_coder_la12 V_lb12) g_b2 g_tt_11 (by have := sz_bnd p1; rw [pd_len]; show _ + 6 ≤ 34; omega) ne_b2_tt_11 O2 P5 Od) hZ12 (wq hw 39 rfl) (wq hw 9 rfl) (by decide) (by decide)) q13a q13c (g := (mkF m 22 #[.val (.int p1)] [(.ref la12), (.ref b2), (.ref b1), (.ref b1)])) rfl (by rw [hml]; rfl) (Steps.refl _) (argsL := [(.ref la12)]) (rest := [(.ref b1), (.ref b1)]) (lenOf pd_25 rfl) rfl (by show 2 * 0 + _ ≤ _; exact Nat.le_of_eq rfl) (hb hby d1_22) (fun _ _ => ⟨rfl, e12, (by decide : 8 + 0 ≤ _), (by decide : 140 + 0 ≤ _)⟩)
    dsimp only [Pt.U, Pt.locs, Pt.cells, Pt.slots] at X13 l13 y13 z13 st13 hQ13
    have X13 := own_reb X13 l13 y13 z13
    obtain ⟨rfl, N13q, K13, sb_13⟩ := hQ13
    have N13 := Fr.app N11 N13q
    have CR_q := CR.trans (CHr.keep K13 (sfS (Safe.exa hZ12.alike E_b2 (by decide) (by decide)) (sfS Sf_tt_11 sf0)) CR.1)
    have Z0 := Nat.le_trans Z0 K13.1
    have Od := Od.keep K13 (allS g_b2 (allS g_tt_11 all0))
    have K0 := K0.trans K13 (allS (Or.inr sz_b2) (allS (Or.inr sz_tt_11) all0))
    have U_b1 := Unt.keep K13 (ninS ne_b1_b2 (ninS ne_b1_tt_11 nin0)) U_b1
    have E_b1 := E_b1.keep K13
    have F_cause_b1 := F_cause_b1.keep K13 (ninS ne_b1_b2 (ninS ne_b1_tt_11 nin0))
    have F_stackTrace_b1 := F_stackTrace_b1.keep K13 (ninS ne_b1_b2 (ninS ne_b1_tt_11 nin0))
    have F_suppressedExceptions_b1 := F_suppressedExceptions_b1.keep K13 (ninS ne_b1_b2 (ninS ne_b1_tt_11 nin0))
    have F_detailMessage_b1 := F_detailMessage_b1.keep K13 (ninS ne_b1_b2 (ninS ne_b1_tt_11 nin0))
    have F_backtrace_b1 := F_backtrace_b1.keep K13 (ninS ne_b1_b2 (ninS ne_b1_tt_11 nin0))
    have E_b2 := E_b2.keep K13
    have CR := CR_q
    have hk13 := Nat.le_trans hk12 K13.1
    refine GlW.pre (B := T13.setTop (mkF m 25 #[.val (.int p1)] [(.ref b2), (.ref b1), (.ref b1)])) (fun _ k => st13.trans k) ?_
    obtain ⟨cq14, kq14, q14a, q14b, q14c⟩ := isOf hZ12 rfl E_b2
    obtain ⟨rv14, _, ⟨T14, L14, k14, n14⟩, -, X14, ⟨Lc14, hQ14, l14, y14, z14⟩, st14⟩ := X13.virtualBack hx (y := (⟨"java/lang/StringBuilder", "toString", "()Ljava/lang/String;"⟩ : MethodName)) (z := (⟨"java/lang/StringBuilder", "toString", "()Ljava/lang/String;"⟩ : MethodName)) ho12 (mvT hZ12 (wq hw 131 rfl)) (mvT hZ12 (wq hw 132 rfl)) (notFace_of_selects (args := #[]) (mvT hZ12 (wq hw 134 rfl))) (mvT hZ12 (wq hw 134 rfl)) (mvT hZ12 (wq hw 133 rfl)) (by decide) (backOf (W := 2) (sbToS l Z a0 hw [] b2 tt_11 kk_11 34 (msgL p1) G1 T13.heap n0 Z0 sb_13 (by have := sz_bnd p1; rw [msg_len]; omega) (by decide) O2 P5 Od) hZ12 (wq hw 135 rfl) (wq hw 9 rfl) (by decide) (by decide)) q14a q14c (g := (mkF m 25 #[.val (.int p1)] [(.ref b2), (.ref b1), (.ref b1)])) rfl (by rw [hml]; rfl) (Steps.refl _) (argsL := []) (rest := [(.ref b1), (.ref b1)]) (lenOf pd_27 rfl) rfl (by show 2 * 0 + _ ≤ _; exact Nat.le_of_eq rfl) (hb hby d1_25) (fun _ _ => ⟨rfl, rfl, (by decide : 8 + 2 ≤ _), (by decide : 140 + 68 ≤ _)⟩)
    dsimp only [Pt.U, Pt.locs, Pt.cells, Pt.slots] at X14 l14 y14 z14 st14 hQ14
    have X14 := own_reb X14 l14 y14 z14
    obtain ⟨x_14, tt_14, kk_14, rfl, N14q, K14, nz_x_14, nz_tt_14, sv_14⟩ := hQ14
    have N14 := Fr.app N13 N14q
    have ne_b1_x_14 : b1 ≠ x_14 := Nat.ne_of_lt (Nat.lt_of_lt_of_le E_b1.lt nz_x_14)
    have sz_x_14 : h0.size ≤ x_14 := Nat.le_trans K0.1 nz_x_14
    have ne_b1_tt_14 : b1 ≠ tt_14 := Nat.ne_of_lt (Nat.lt_of_lt_of_le E_b1.lt nz_tt_14)
    have CR_q := CR.trans (CHr.keep K14 sf0 CR.1)
    have Z0 := Nat.le_trans Z0 K14.1
    have Od := Od.keep K14 all0
    have K0 := K0.trans K14 (fun _ q => nomatch q)
    have U_b1 := Unt.keep K14 nin0 U_b1
    have E_b1 := E_b1.keep K14
    have F_cause_b1 := F_cause_b1.keep K14 nin0
    have F_stackTrace_b1 := F_stackTrace_b1.keep K14 nin0
    have F_suppressedExceptions_b1 := F_suppressedExceptions_b1.keep K14 nin0
    have F_detailMessage_b1 := F_detailMessage_b1.keep K14 nin0
    have F_backtrace_b1 := F_backtrace_b1.keep K14 nin0
    have CR := CR_q
    have hk14 := Nat.le_trans hk13 K14.1
    refine GlW.pre (B := T14.setTop (mkF m 28 #[.val (.int p1)] [(.ref x_14), (.ref b1), (.ref b1)])) (fun _ k => st14.trans k) ?_
    obtain ⟨rv15, _, ⟨T15, L15, k15, n15⟩, -, X15, ⟨Lc15, hQ15, l15, y15, z15⟩, st15⟩ := X14.specialBack hx (y := (⟨"java/io/IOException", "<init>", "(Ljava/lang/String;)V"⟩ : MethodName)) rfl ho12 (mvT hZ12 (wq hw 168 rfl)) (mvT hZ12 (wq hw 169 rfl)) (mvT hZ12 (wq hw 170 rfl)) (by decide) (backOfKL (W := 1) (ioeInit l Z a0 hw [] b1 x_14 uA sA T14.heap n0 Z0 g_b1 E_b1 U_b1 F_cause_b1 F_stackTrace_b1 F_suppressedExceptions_b1 F_backtrace_b1 F_detailMessage_b1 Od O6 O7 hlt) hZ12 (wq hw 170 rfl) (wq hw 6 rfl) (by decide) (by decide) (Vm.MethodsKnown.alikeC (hZi.alike.symm.trans hZ12.alike) hK.1) (Vm.FramesKnown.alikeC (hZi.alike.symm.trans hZ12.alike) hK.2)) (g := (mkF m 28 #[.val (.int p1)] [(.ref x_14), (.ref b1), (.ref b1)])) rfl (by rw [hml]; rfl) (Steps.refl _) (a := b1) (argsL := [(.ref x_14)]) (rest := [(.ref b1)]) (lenOf pd_1 rfl) rfl (by show 2 * 0 + _ ≤ _; exact Nat.le_of_eq rfl) (hb hby d1_28) (fun _ _ => ⟨rfl, rfl, (by decide : 10 + 1 ≤ _), (by decide : 208 + 2752 ≤ _)⟩)
    dsimp only [Pt.U, Pt.locs, Pt.cells, Pt.slots] at X15 l15 y15 z15 st15 hQ15
    have X15 := own_reb X15 l15 y15 z15
    obtain ⟨rfl, N15q, K15, U_15, Fm_15, Fz_15⟩ := hQ15
    have N15 := Fr.app N14 N15q
    have CR_q := CR.trans (CHr.keep K15 (sfS (Safe.exa hZ12.alike E_b1 (by decide) (by decide)) sf0) CR.1)
    have K0 := K0.trans K15 (allS (Or.inr sz_b1) all0)
    have E_b1 := E_b1.keep K15
    have CR := CR_q
    have hk15 := Nat.le_trans hk14 K15.1
    have svE := StrV.keep sv_14 K15 (ninS (Ne.symm ne_b1_x_14) nin0) (ninS (Ne.symm ne_b1_tt_14) nin0)
    refine GlW.pre (B := T15.setTop (mkF m 31 #[.val (.int p1)] [(.ref b1)])) (fun _ k => st15.trans k) ?_
    refine GlW.out X15 hsh rfl hS12 hk15 hZ12 hEL CR (v := some (.ref b1)) (fun h => by rw [hret] at h; cases h) hlk (fun fs hr => retOut X15 hx hret rfl (Or.inr (Or.inr (Or.inr (Or.inr ⟨rfl, rfl, rfl⟩)))) (hb hby d1_31) hr) ?_ (by decide) (by decide)
    show Q_tooLong Z _ _ _ _ _ _ _ _ _ h0 n0 _ T15.heap _
    exact ⟨b1, x_14, tt_14, kk_14, rfl, N15, K0, sz_b1, sz_x_14, E_b1, U_15, Fm_15, Fz_15, svE⟩
theorem pd_28 : parseMethodDescriptor "(I)Ljava/io/IOException;" = some ⟨[.int], some (.object "java/io/IOException")⟩ := by decide +kernel
theorem pd_29 : parseMethodDescriptor "(J)I" = some ⟨[.long], some .int⟩ := by decide +kernel
theorem pd_30 : parseMethodDescriptor "(Ljava/lang/String;ILjava/lang/String;I)Z" = some ⟨[(.object "java/lang/String"), .int, (.object "java/lang/String"), .int], some .boolean⟩ := by decide +kernel
theorem pd_31 : parseMethodDescriptor "(Ljava/lang/String;IIJI)Z" = some ⟨[(.object "java/lang/String"), .int, .int, .long, .int], some .boolean⟩ := by decide +kernel
theorem ef_rm0 (m : MethodId) (x0 : Int32) : entryFrame m #[(.int x0)] maxLocals = mkF m 0 #[.val (.int x0), .unset, .unset, .unset, .unset, .unset, .unset, .unset, .unset, .unset, .unset, .unset, .unset, .unset, .unset, .unset, .unset, .unset, .unset] [] := by first | (simp [entryFrame, mkF, argsToLocals, Value.category, maxLocals]; done) | rfl
def Q_rm0 (Z : State) (p1 : Int32) (G1 : Int32) (G3 : Value) (uA : Addr) (sA : Addr) (sT : Addr) (dA : Addr) (dB : Addr) (DA : Cell) (DB : Cell) (h0 : Heap) (n0 : Nat) (v : Option Value) (h : Heap) (L : List Loc) : Prop := v = some (.int (1 : Int32)) ∧ Fr n0 L
set_option maxRecDepth 65536 in
set_option maxHeartbeats 40000000 in
theorem rm0 (l : Launch) (Z : State) (a0 : Array Value) (hw : ∀ d ∈ tables_1, d.before a0 Z = true) (ws : List Jvm.Cond) (p1 : Int32) (G1 : Int32) (G3 : Value) (uA : Addr) (sA : Addr) (sT : Addr) (dA : Addr) (dB : Addr) (DA : Cell) (DB : Cell) (h0 : Heap) (n0 : Nat) (Z0 : n0 ≤ h0.size) (O2 : Sta Z Z.heap "java/lang/String" "COMPACT_STRINGS" "Z" (.int G1)) (P5 : ¬ (G1 = (0 : Int32))) (O4 : Sta Z Z.heap "jdk/internal/util/Preconditions" "SIOOBE_FORMATTER" "Ljava/util/function/BiFunction;" G3) (rG3 : G3.isRef = true) (Od : Old Z n0 h0) (O6 : Sta Z Z.heap "java/lang/Throwable" "UNASSIGNED_STACK" "[Ljava/lang/StackTraceElement;" (.ref uA)) (O7 : Sta Z Z.heap "java/lang/Throwable" "SUPPRESSED_SENTINEL" "Ljava/util/List;" (.ref sA)) (hlt : l.stackTraces = true) (tbA : SBG.Tbl Z "DigitOnes" sT dA DA) (onA : SBG.Ones DA) (tbB : SBG.Tbl Z "DigitTens" sT dB DB) (onB : SBG.Tens DB) :
    MetFree l x (head1 (Jvm.Cond.code x code maxLocals ret :: ws) room_1) (fun a U => a = #[(.int p1)] ∧ Z.Warmed39 U.vm ∧ U.heap = h0 ∧ CHv Z EL1 U.vm h0) (fun _ _ bl s _ => s.vm.MethodsKnown ∧ s.vm.FramesKnown bl) (fun _ U o U' => ∃ v L, o = .returned v ∧ Q_rm0 Z p1 G1 G3 uA sA sT dA dB DA DB h0 n0 v U'.heap L ∧ CHr Z EL1 U.vm U.heap U'.vm U'.heap ∧ ReturnedEndW U o U' L room_1.cells room_1.slots) := by
  refine MetFree.of_bodySF (plainFor_of_name pn_com_example_bourse_bourse_exchange_BoundedFileTooLongPinLaw) hisR ?_
  intro p e s m args below meth c s₁ Bd hml0 hP hK
  obtain ⟨rfl, hZ, hh, CH0⟩ := hP
  have hx := Bd.exec
  have hby := Bd.bytes
  have hml : c.maxLocals = 19 := hml0
  have hown : s.vm.findClass "com/example/bourse/bourse/exchange/BoundedFileTooLongPinLaw" = some m.cls := findClass_of_methodNamed Bd.named
  have hnm := (name_of_methodNamed Bd.named Bd.method).1
  have hret : meth.sig.returnType = (some .boolean) := Bd.returns
  have hlk : meth.locks = false := BodyLoose.notSynchronized Bd
  have X0 : Stand p l e room_1 (s.setVm s.vm) m #[(.int p1)] below meth c s₁ [] 0 0 := Stand.of_body Bd
  have e0 : s₁.heap = h0 := by rw [← hh, Bd.state]; rfl
  have N0 := Fr.nil n0
  have hZi : Z.Warmed39 s.vm := hZ
  have hZ : Z.Warmed39 (s.setVm s.vm).vm := hZ
  have hown : (s.setVm s.vm).vm.findClass "com/example/bourse/bourse/exchange/BoundedFileTooLongPinLaw" = some m.cls := hown
  have hsh : s.heap = h0 := hh
  have hS0 : s.Since s.vm 0 := State.WarmedH.since (State.WarmedH.refl s) 0
  have hk0 : 0 ≤ h0.size := Nat.zero_le _
  have hEL : EW Z a0 EL1 := ew_all hw
  have CR : CHr Z EL1 s.vm h0 s.vm h0 := CHr.refl CH0
  show GlW p.tables e below s EL1 Z (Q_rm0 Z p1 G1 G3 uA sA sT dA dB DA DB h0 n0) 32 9920 _
  refine GlW.pre (B := s₁.setTop (mkF m 0 #[.val (.int p1), .unset, .unset, .unset, .unset, .unset, .unset, .unset, .unset, .unset, .unset, .unset, .unset, .unset, .unset, .unset, .unset, .unset, .unset] [])) (fun _ k => castTop (ef_rm0 m p1) k) ?_
  refine GlW.pre (B := s₁.setTop (mkF m 1 #[.val (.int p1), .unset, .unset, .unset, .unset, .unset, .unset, .unset, .unset, .unset, .unset, .unset, .unset, .unset, .unset, .unset, .unset, .unset, .unset] [(.int p1)])) (fun _ k => XS.iloadN X0.here hx rfl (hb hby at_0) rfl k) ?_
  obtain ⟨rv1, _, ⟨T1, L1, k1, n1⟩, -, X1, Sg1, Gg1, ⟨Lc1, hQ1, l1, y1, z1, C1⟩, st1⟩ := callSS X0 hx (y := (⟨"com/example/bourse/bourse/exchange/BoundedFile", "tooLong", "(I)Ljava/io/IOException;"⟩ : MethodName)) hown (mvT hZ (wq hw 0 rfl)) (mvT hZ (wq hw 1 rfl)) (mvT hZ (wq hw 2 rfl)) (mvT hZ (wq hw 3 rfl)) (by decide) (backOfSKH (W := 0) (tooLong l Z a0 hw [] p1 G1 uA sA sT dA dB DA DB h0 n0 Z0 O2 P5 Od O6 O7 hlt tbA onA tbB onB) hZ (wq hw 3 rfl) (wq hw 2 rfl) (by decide) (by decide) hEL CR.1 (Vm.MethodsKnown.alikeC (hZi.alike.symm.trans hZ.alike) hK.1) (Vm.FramesKnown.alikeC (hZi.alike.symm.trans hZ.alike) hK.2)) (g := (mkF m 1 #[.val (.int p1), .unset, .unset, .unset, .unset, .unset, .unset, .unset, .unset, .unset, .unset, .unset, .unset, .unset, .unset, .unset, .unset, .unset, .unset] [(.int p1)])) rfl (by rw [hml]; rfl) (argsL := [(.int p1)]) (rest := []) (lenOf pd_28 rfl) rfl (by show 2 * 0 + _ ≤ _; exact Nat.le_of_eq rfl) (hb hby at_1) (fun _ _ => ⟨rfl, e0, (by decide : 0 + 11 ≤ _), (by decide : 0 + 2960 ≤ _)⟩)
  dsimp only [Pt.U, Pt.locs, Pt.cells, Pt.slots] at X1 Sg1 Gg1 l1 y1 z1 C1 st1 hQ1
  have X1 := own_reb X1 l1 y1 z1
  obtain ⟨X1, hS1, hZ1, ho1⟩ := rebS hS0 (show _ ≤ s₁.heap.size from e0 ▸ hk0) X1 Sg1 Gg1 hZ hown
  have hk1 := Nat.le_refl T1.heap.size
  obtain ⟨x_1, y_1, ty_1, ky_1, rfl, N1q, K1, nz_x_1, nz_y_1, E_1, U_1, Fm_1, Fz_1, sv_1⟩ := hQ1
  have N1 := Fr.app N0 N1q
  have CR_q := CR.trans C1
  have Z0 := Nat.le_trans Z0 K1.1
  have Od := Od.keep K1 all0
  have CR := CR_q
  refine GlW.pre (B := T1.setTop (mkF m 12 #[.val (.int p1), .val (.ref x_1), .unset, .unset, .unset, .unset, .unset, .unset, .unset, .unset, .unset, .unset, .unset, .unset, .unset, .unset, .unset, .unset, .unset] [(.ref x_1)])) (fun _ k => st1.trans (XS.astoreN X1.here hx rfl (hb hby at_4) rfl rfl (l' := #[.val (.int p1), .val (.ref x_1), .unset, .unset, .unset, .unset, .unset, .unset, .unset, .unset, .unset, .unset, .unset, .unset, .unset, .unset, .unset, .unset, .unset]) rfl (XS.aloadN X1.here hx rfl (hb hby at_5) rfl rfl (XS.ifnonnullYes X1.here hx rfl (pc0 := 6) (pc' := 11) rfl (hb hby at_6) rfl (by decide) (by decide) (XS.aloadN X1.here hx rfl (hb hby at_11) rfl rfl k))))) ?_
  obtain ⟨cq2, kq2, q2a, q2b, q2c⟩ := isOf hZ1 rfl E_1
  obtain ⟨rv2, _, ⟨T2, L2, k2, n2⟩, -, X2, ⟨Lc2, hQ2, l2, y2, z2⟩, st2⟩ := X1.virtualBackUp hx (owner := "java/lang/Throwable") (x := (⟨"java/io/IOException", "getCause", "()Ljava/lang/Throwable;"⟩ : MethodName)) (y := (⟨"java/lang/Throwable", "getCause", "()Ljava/lang/Throwable;"⟩ : MethodName)) ho1 (mvT hZ1 (wq hw 220 rfl)) (mvT hZ1 (wq hw 221 rfl)) (mvT hZ1 (wq hw 222 rfl)) (by decide) (mvT hZ1 (wq hw 224 rfl)) (mvT hZ1 (wq hw 223 rfl)) (own_gcause (W := 0) (n0 := n0) hZ1 (wq hw 225 rfl) (wq hw 223 rfl) (wq hw 181 rfl) (wq hw 184 rfl) U_1 Fz_1 (by decide) (by decide)) q2a q2c (g := (mkF m 12 #[.val (.int p1), .val (.ref x_1), .unset, .unset, .unset, .unset, .unset, .unset, .unset, .unset, .unset, .unset, .unset, .unset, .unset, .unset, .unset, .unset, .unset] [(.ref x_1)])) rfl (by rw [hml]; rfl) (Steps.refl _) (argsL := []) (rest := []) (lenOf pd_0 rfl) rfl (by show 2 * 0 + _ ≤ _; exact Nat.le_of_eq rfl) (hb hby at_12) (fun _ _ => ⟨rfl, rfl, (by decide : 11 + 0 ≤ _), (by decide : 2960 + 0 ≤ _)⟩)
  dsimp only [Pt.U, Pt.locs, Pt.cells, Pt.slots] at X2 l2 y2 z2 st2 hQ2
  have X2 := own_reb X2 l2 y2 z2
  obtain ⟨rfl, N2q, e2⟩ := hQ2
  have N2 := Fr.app N1 N2q
  refine GlW.pre (B := T2.setTop (mkF m 21 #[.val (.int p1), .val (.ref x_1), .unset, .unset, .unset, .unset, .unset, .unset, .unset, .unset, .unset, .unset, .unset, .unset, .unset, .unset, .unset, .unset, .unset] [(.ref x_1)])) (fun _ k => st2.trans (XS.ifnullYes X2.here hx rfl (pc0 := 15) (pc' := 20) rfl (hb hby at_15) rfl (by decide) (by decide) (XS.aloadN X2.here hx rfl (hb hby at_20) rfl rfl k))) ?_
  obtain ⟨cq3, kq3, q3a, q3b, q3c⟩ := isOf hZ1 e2 E_1
  obtain ⟨rv3, _, ⟨T3, L3, k3, n3⟩, -, X3, ⟨Lc3, hQ3, l3, y3, z3⟩, st3⟩ := X2.virtualBackUp hx (owner := "java/lang/Throwable") (x := (⟨"java/io/IOException", "getMessage", "()Ljava/lang/String;"⟩ : MethodName)) (y := (⟨"java/lang/Throwable", "getMessage", "()Ljava/lang/String;"⟩ : MethodName)) ho1 (mvT hZ1 (wq hw 226 rfl)) (mvT hZ1 (wq hw 227 rfl)) (mvT hZ1 (wq hw 228 rfl)) (by decide) (mvT hZ1 (wq hw 230 rfl)) (mvT hZ1 (wq hw 229 rfl)) (backOf (W := 0) (getMsg l Z a0 hw [] x_1 y_1 T1.heap n0 Z0 Fm_1) hZ1 (wq hw 231 rfl) (wq hw 181 rfl) (by decide) (by decide)) q3a q3c (g := (mkF m 21 #[.val (.int p1), .val (.ref x_1), .unset, .unset, .unset, .unset, .unset, .unset, .unset, .unset, .unset, .unset, .unset, .unset, .unset, .unset, .unset, .unset, .unset] [(.ref x_1)])) rfl (by rw [hml]; rfl) (Steps.refl _) (argsL := []) (rest := []) (lenOf pd_27 rfl) rfl (by show 2 * 0 + _ ≤ _; exact Nat.le_of_eq rfl) (hb hby at_21) (fun _ _ => ⟨rfl, e2, (by decide : 11 + 0 ≤ _), (by decide : 2960 + 0 ≤ _)⟩)
  dsimp only [Pt.U, Pt.locs, Pt.cells, Pt.slots] at X3 l3 y3 z3 st3 hQ3
  have X3 := own_reb X3 l3 y3 z3
  obtain ⟨rfl, N3q, e3⟩ := hQ3
  have N3 := Fr.app N2 N3q
  refine GlW.pre (B := T3.setTop (mkF m 35 #[.val (.int p1), .val (.ref x_1), .val (.ref y_1), .val (.long (p1.toInt64)), .second, .unset, .unset, .unset, .unset, .unset, .unset, .unset, .unset, .unset, .unset, .unset, .unset, .unset, .unset] [(.long (p1.toInt64))])) (fun _ k => st3.trans (XS.astoreN X3.here hx rfl (hb hby at_24) rfl rfl (l' := #[.val (.int p1), .val (.ref x_1), .val (.ref y_1), .unset, .unset, .unset, .unset, .unset, .unset, .unset, .unset, .unset, .unset, .unset, .unset, .unset, .unset, .unset, .unset]) rfl (XS.aloadN X3.here hx rfl (hb hby at_25) rfl rfl (XS.ifnonnullYes X3.here hx rfl (pc0 := 26) (pc' := 31) rfl (hb hby at_26) rfl (by decide) (by decide) (XS.iloadN X3.here hx rfl (hb hby at_31) rfl (XS.i2l X3.here hx rfl (hb hby at_32) rfl (XS.lstoreN X3.here hx rfl (hb hby at_33) rfl (l' := #[.val (.int p1), .val (.ref x_1), .val (.ref y_1), .val (.long (p1.toInt64)), .second, .unset, .unset, .unset, .unset, .unset, .unset, .unset, .unset, .unset, .unset, .unset, .unset, .unset, .unset]) rfl (XS.lloadN X3.here hx rfl (hb hby at_34) rfl k)))))))) ?_
  refine GlW.pre (B := T3.setTop (mkF m 37 #[.val (.int p1), .val (.ref x_1), .val (.ref y_1), .val (.long (p1.toInt64)), .second, .unset, .unset, .unset, .unset, .unset, .unset, .unset, .unset, .unset, .unset, .unset, .unset, .unset, .unset] [(.int (lcmpW (p1.toInt64) (0 : Int64)))])) (fun _ k => XS.lconst X3.here hx rfl (hb hby at_35) (XS.lcmp X3.here hx rfl (hb hby at_36) rfl k)) ?_
  by_cases hc37_4 : (lcmpW (p1.toInt64) (0 : Int64)) < (0 : Int32)
  · refine GlW.pre (B := T3.setTop (mkF m 47 #[.val (.int p1), .val (.ref x_1), .val (.ref y_1), .val (.long (p1.toInt64)), .second, .val (.int (1 : Int32)), .unset, .unset, .unset, .unset, .unset, .unset, .unset, .unset, .unset, .unset, .unset, .unset, .unset] [])) (fun _ k => XS.ifNo X3.here hx rfl (hb hby at_37) rfl ((if0 _ _).trans (tlt hc37_4).2.1) (XS.iconst X3.here hx rfl (hb hby at_40) (XS.goto X3.here hx rfl (pc0 := 41) (pc' := 45) rfl (hb hby at_41) (by decide) (by decide) (XS.istore X3.here hx rfl (hb hby at_45) rfl (l' := #[.val (.int p1), .val (.ref x_1), .val (.ref y_1), .val (.long (p1.toInt64)), .second, .val (.int (1 : Int32)), .unset, .unset, .unset, .unset, .unset, .unset, .unset, .unset, .unset, .unset, .unset, .unset, .unset]) rfl k)))) ?_
    have hsg : p1 < 0 := own_neg64.mp hc37_4
    have hoS : 13 = 12 + GetChars.sgn p1 := own_s13 hsg
    obtain ⟨E_y_1, Fv_y_1, Fc_y_1, V_y_1, hb_y_1, hl_y_1⟩ := id sv_1
    refine GlW.pre (B := T3.setTop (mkF m 62 #[.val (.int p1), .val (.ref x_1), .val (.ref y_1), .val (.long (p1.toInt64)), .second, .val (.int (1 : Int32)), .val (.long (-(p1.toInt64))), .second, .unset, .unset, .unset, .unset, .unset, .unset, .unset, .unset, .unset, .unset, .unset] [(.long (-(p1.toInt64)))])) (fun _ k => XS.iload X3.here hx rfl (hb hby at_47) rfl (XS.ifNo X3.here hx rfl (hb hby at_49) rfl ((if0 _ _).trans (feq (by decide : ¬ ((1 : Int32) = (0 : Int32)))).1) (XS.lloadN X3.here hx rfl (hb hby at_52) rfl (XS.lneg X3.here hx rfl (hb hby at_53) rfl (XS.goto X3.here hx rfl (pc0 := 54) (pc' := 58) rfl (hb hby at_54) (by decide) (by decide) (XS.lstore X3.here hx rfl (hb hby at_58) rfl (l' := #[.val (.int p1), .val (.ref x_1), .val (.ref y_1), .val (.long (p1.toInt64)), .second, .val (.int (1 : Int32)), .val (.long (-(p1.toInt64))), .second, .unset, .unset, .unset, .unset, .unset, .unset, .unset, .unset, .unset, .unset, .unset]) rfl (XS.lload X3.here hx rfl (hb hby at_60) rfl k))))))) ?_
    obtain ⟨rv5, _, ⟨T5, L5, k5, n5⟩, -, X5, ⟨Lc5, hQ5, l5, y5, z5⟩, st5⟩ := Jvm.LawKit.callS X3 hx (y := (⟨"com/example/bourse/bourse/exchange/BoundedFileTooLongPinLaw", "digits", "(J)I"⟩ : MethodName)) ho1 (mvT hZ1 (wq hw 232 rfl)) (mvT hZ1 (wq hw 233 rfl)) (mvT hZ1 (wq hw 234 rfl)) (mvT hZ1 (wq hw 235 rfl)) (by decide) (backOf (W := 0) (lawDig l Z a0 hw [] (-(p1.toInt64)) (absN p1) T1.heap n0 Z0 (own_an hsg) (abs_le p1)) hZ1 (wq hw 235 rfl) (wq hw 234 rfl) (by decide) (by decide)) (g := (mkF m 62 #[.val (.int p1), .val (.ref x_1), .val (.ref y_1), .val (.long (p1.toInt64)), .second, .val (.int (1 : Int32)), .val (.long (-(p1.toInt64))), .second, .unset, .unset, .unset, .unset, .unset, .unset, .unset, .unset, .unset, .unset, .unset] [(.long (-(p1.toInt64)))])) rfl (by rw [hml]; rfl) (argsL := [(.long (-(p1.toInt64)))]) (rest := []) (lenOf pd_29 rfl) rfl (by show 2 * 0 + _ ≤ _; exact Nat.le_of_eq rfl) (hb hby at_62) (fun _ _ => ⟨rfl, e3, (by decide : 11 + 0 ≤ _), (by decide : 2960 + 0 ≤ _)⟩)
    dsimp only [Pt.U, Pt.locs, Pt.cells, Pt.slots] at X5 l5 y5 z5 st5 hQ5
    have X5 := own_reb X5 l5 y5 z5
    obtain ⟨rfl, N5q, e5⟩ := hQ5
    have N5 := Fr.app N3 N5q
    refine GlW.pre (B := T5.setTop (mkF m 81 #[.val (.int p1), .val (.ref x_1), .val (.ref y_1), .val (.long (p1.toInt64)), .second, .val (.int (1 : Int32)), .val (.long (-(p1.toInt64))), .second, .val (.int (Int32.ofNat (SBG.digits (absN p1)))), .val (.int (1 : Int32)), .unset, .unset, .unset, .unset, .unset, .unset, .unset, .unset, .unset] [(.int (12 : Int32))])) (fun _ k => st5 _ (XS.istore X5.here hx rfl (hb hby at_65) rfl (l' := #[.val (.int p1), .val (.ref x_1), .val (.ref y_1), .val (.long (p1.toInt64)), .second, .val (.int (1 : Int32)), .val (.long (-(p1.toInt64))), .second, .val (.int (Int32.ofNat (SBG.digits (absN p1)))), .unset, .unset, .unset, .unset, .unset, .unset, .unset, .unset, .unset, .unset]) rfl (XS.iload X5.here hx rfl (hb hby at_67) rfl (XS.ifNo X5.here hx rfl (hb hby at_69) rfl ((if0 _ _).trans (feq (by decide : ¬ ((1 : Int32) = (0 : Int32)))).1) (XS.iconst X5.here hx rfl (hb hby at_72) (XS.goto X5.here hx rfl (pc0 := 73) (pc' := 77) rfl (hb hby at_73) (by decide) (by decide) (XS.istore X5.here hx rfl (hb hby at_77) rfl (l' := #[.val (.int p1), .val (.ref x_1), .val (.ref y_1), .val (.long (p1.toInt64)), .second, .val (.int (1 : Int32)), .val (.long (-(p1.toInt64))), .second, .val (.int (Int32.ofNat (SBG.digits (absN p1)))), .val (.int (1 : Int32)), .unset, .unset, .unset, .unset, .unset, .unset, .unset, .unset, .unset]) rfl (XS.bipush X5.here hx rfl (hb hby at_79) k)))))))) ?_
    refine GlW.pre (B := T5.setTop (mkF m 84 #[.val (.int p1), .val (.ref x_1), .val (.ref y_1), .val (.long (p1.toInt64)), .second, .val (.int (1 : Int32)), .val (.long (-(p1.toInt64))), .second, .val (.int (Int32.ofNat (SBG.digits (absN p1)))), .val (.int (1 : Int32)), .unset, .unset, .unset, .unset, .unset, .unset, .unset, .unset, .unset] [(.int ((12 : Int32) + (1 : Int32)))])) (fun _ k => XS.iload X5.here hx rfl (hb hby at_81) rfl (XS.iadd X5.here hx rfl (hb hby at_83) rfl k)) ?_
    rw [show ((12 : Int32) + (1 : Int32)) = (13 : Int32) from by decide]
    refine GlW.pre (B := T5.setTop (mkF m 93 #[.val (.int p1), .val (.ref x_1), .val (.ref y_1), .val (.long (p1.toInt64)), .second, .val (.int (1 : Int32)), .val (.long (-(p1.toInt64))), .second, .val (.int (Int32.ofNat (SBG.digits (absN p1)))), .val (.int (1 : Int32)), .val (.int (((13 : Int32) + (Int32.ofNat (SBG.digits (absN p1)))) + (6 : Int32))), .unset, .unset, .unset, .unset, .unset, .unset, .unset, .unset] [(.ref y_1)])) (fun _ k => XS.iload X5.here hx rfl (hb hby at_84) rfl (XS.iadd X5.here hx rfl (hb hby at_86) rfl (XS.bipush X5.here hx rfl (hb hby at_87) (XS.iadd X5.here hx rfl (hb hby at_89) rfl (XS.istore X5.here hx rfl (hb hby at_90) rfl (l' := #[.val (.int p1), .val (.ref x_1), .val (.ref y_1), .val (.long (p1.toInt64)), .second, .val (.int (1 : Int32)), .val (.long (-(p1.toInt64))), .second, .val (.int (Int32.ofNat (SBG.digits (absN p1)))), .val (.int (1 : Int32)), .val (.int (((13 : Int32) + (Int32.ofNat (SBG.digits (absN p1)))) + (6 : Int32))), .unset, .unset, .unset, .unset, .unset, .unset, .unset, .unset]) rfl (XS.aloadN X5.here hx rfl (hb hby at_92) rfl rfl k)))))) ?_
    obtain ⟨cq6, kq6, q6a, q6b, q6c⟩ := isOf hZ1 e5 E_y_1
    obtain ⟨rv6, _, ⟨T6, L6, k6, n6⟩, -, X6, ⟨Lc6, hQ6, l6, y6, z6⟩, st6⟩ := X5.virtualBack hx (y := (⟨"java/lang/String", "length", "()I"⟩ : MethodName)) (z := (⟨"java/lang/String", "length", "()I"⟩ : MethodName)) ho1 (mvT hZ1 (wq hw 237 rfl)) (mvT hZ1 (wq hw 46 rfl)) (notFace_of_selects (args := #[]) (mvT hZ1 (wq hw 48 rfl))) (mvT hZ1 (wq hw 48 rfl)) (mvT hZ1 (wq hw 47 rfl)) (by decide) (backOf (W := 0) (strLen l Z a0 hw [] y_1 ty_1 ky_1 (msgL p1) G1 T1.heap n0 Z0 sv_1 O2 P5 Od) hZ1 (wq hw 49 rfl) (wq hw 23 rfl) (by decide) (by decide)) q6a q6c (g := (mkF m 93 #[.val (.int p1), .val (.ref x_1), .val (.ref y_1), .val (.long (p1.toInt64)), .second, .val (.int (1 : Int32)), .val (.long (-(p1.toInt64))), .second, .val (.int (Int32.ofNat (SBG.digits (absN p1)))), .val (.int (1 : Int32)), .val (.int (((13 : Int32) + (Int32.ofNat (SBG.digits (absN p1)))) + (6 : Int32))), .unset, .unset, .unset, .unset, .unset, .unset, .unset, .unset] [(.ref y_1)])) rfl (by rw [hml]; rfl) (Steps.refl _) (argsL := []) (rest := []) (lenOf pd_5 rfl) rfl (by show 2 * 0 + _ ≤ _; exact Nat.le_of_eq rfl) (hb hby at_93) (fun _ _ => ⟨rfl, e5, (by decide : 11 + 0 ≤ _), (by decide : 2960 + 0 ≤ _)⟩)
    dsimp only [Pt.U, Pt.locs, Pt.cells, Pt.slots] at X6 l6 y6 z6 st6 hQ6
    have X6 := own_reb X6 l6 y6 z6
    obtain ⟨rfl, N6q, e6⟩ := hQ6
    have N6 := Fr.app N5 N6q
    refine GlW.pre (B := T6.setTop (mkF m 103 #[.val (.int p1), .val (.ref x_1), .val (.ref y_1), .val (.long (p1.toInt64)), .second, .val (.int (1 : Int32)), .val (.long (-(p1.toInt64))), .second, .val (.int (Int32.ofNat (SBG.digits (absN p1)))), .val (.int (1 : Int32)), .val (.int (((13 : Int32) + (Int32.ofNat (SBG.digits (absN p1)))) + (6 : Int32))), .unset, .unset, .unset, .unset, .unset, .unset, .unset, .unset] [])) (fun _ k => st6.trans (XS.iload X6.here hx rfl (hb hby at_96) rfl (XS.icmpYes X6.here hx rfl (pc0 := 98) (pc' := 103) rfl (hb hby at_98) rfl (teq (msg_l32 hoS : (Int32.ofNat (msgL p1).length) = (((13 : Int32) + (Int32.ofNat (SBG.digits (absN p1)))) + (6 : Int32)))).1 (by decide) (by decide) k))) ?_
    obtain ⟨la7, T7, h7, kk7, lb7, kc7, X7, e7, E7, hS7, hk7, hZ7, ho7, E_la7, F_coder_la7, F_value_la7, V_lb7, lt7, ltb7, C7, Li7, sn7, st7⟩ := ldcCH X6 hx hZ1 ho1 (wq hw 238 rfl) (string_atoms hw) e6 hS1 hk1 hEL (List.mem_of_getElem? (i := 2) rfl) CR.1 (vs := [(.int (108 : Int32)), (.int (111 : Int32)), (.int (110 : Int32)), (.int (103 : Int32)), (.int (101 : Int32)), (.int (114 : Int32)), (.int (32 : Int32)), (.int (116 : Int32)), (.int (104 : Int32)), (.int (97 : Int32)), (.int (110 : Int32)), (.int (32 : Int32))]) (z := 12) ⟨by decide, by decide⟩ (by decide) (by decide) (g := (mkF m 103 #[.val (.int p1), .val (.ref x_1), .val (.ref y_1), .val (.long (p1.toInt64)), .second, .val (.int (1 : Int32)), .val (.long (-(p1.toInt64))), .second, .val (.int (Int32.ofNat (SBG.digits (absN p1)))), .val (.int (1 : Int32)), .val (.int (((13 : Int32) + (Int32.ofNat (SBG.digits (absN p1)))) + (6 : Int32))), .unset, .unset, .unset, .unset, .unset, .unset, .unset, .unset] [])) rfl (hb hby at_103) (n := 48) (by decide) (by decide) (by decide) (by decide)
    have CR_q := CR.trans C7
    have Z0 := Nat.le_trans Z0 E7.1
    have Od := Od.ext E7
    have E_1 := E_1.ext E7
    have sv_1 := sv_1.ext E7
    have E_y_1 := E_y_1.ext E7
    have CR := CR_q
    have sn7_x_1 := sn7 x_1 (Safe.exa hZ7.alike E_1 (by decide) (by decide))
    refine GlW.pre (B := T7.setTop (mkF m 107 #[.val (.int p1), .val (.ref x_1), .val (.ref y_1), .val (.long (p1.toInt64)), .second, .val (.int (1 : Int32)), .val (.long (-(p1.toInt64))), .second, .val (.int (Int32.ofNat (SBG.digits (absN p1)))), .val (.int (1 : Int32)), .val (.int (((13 : Int32) + (Int32.ofNat (SBG.digits (absN p1)))) + (6 : Int32))), .val (.ref la7), .unset, .unset, .unset, .unset, .unset, .unset, .unset] [])) (fun _ k => st7 _ (XS.astore X7.here hx rfl (hb hby at_105) rfl rfl (l' := #[.val (.int p1), .val (.ref x_1), .val (.ref y_1), .val (.long (p1.toInt64)), .second, .val (.int (1 : Int32)), .val (.long (-(p1.toInt64))), .second, .val (.int (Int32.ofNat (SBG.digits (absN p1)))), .val (.int (1 : Int32)), .val (.int (((13 : Int32) + (Int32.ofNat (SBG.digits (absN p1)))) + (6 : Int32))), .val (.ref la7), .unset, .unset, .unset, .unset, .unset, .unset, .unset]) rfl k)) ?_
    obtain ⟨la8, T8, h8, kk8, lb8, kc8, X8, e8, E8, hS8, hk8, hZ8, ho8, E_la8, F_coder_la8, F_value_la8, V_lb8, lt8, ltb8, C8, Li8, sn8, st8⟩ := ldcCH X7 hx hZ7 ho7 (wq hw 239 rfl) (string_atoms hw) e7 hS7 hk7 hEL (List.mem_of_getElem? (i := 3) rfl) CR.1 (vs := [(.int (32 : Int32)), (.int (98 : Int32)), (.int (121 : Int32)), (.int (116 : Int32)), (.int (101 : Int32)), (.int (115 : Int32))]) (z := 6) ⟨by decide, by decide⟩ (by decide) (by decide) (g := (mkF m 107 #[.val (.int p1), .val (.ref x_1), .val (.ref y_1), .val (.long (p1.toInt64)), .second, .val (.int (1 : Int32)), .val (.long (-(p1.toInt64))), .second, .val (.int (Int32.ofNat (SBG.digits (absN p1)))), .val (.int (1 : Int32)), .val (.int (((13 : Int32) + (Int32.ofNat (SBG.digits (absN p1)))) + (6 : Int32))), .val (.ref la7), .unset, .unset, .unset, .unset, .unset, .unset, .unset] [])) rfl (hb hby at_107) (n := 24) (by decide) (by decide) (by decide) (by decide)
    have CR_q := CR.trans C8
    have Z0 := Nat.le_trans Z0 E8.1
    have Od := Od.ext E8
    have E_1 := E_1.ext E8
    have sv_1 := sv_1.ext E8
    have E_y_1 := E_y_1.ext E8
    have E_la7 := E_la7.ext E8
    have F_coder_la7 := F_coder_la7.ext E8
    have F_value_la7 := F_value_la7.ext E8
    have V_lb7 := V_lb7.ext E8
    have CR := CR_q
    have sn8_x_1 := sn8 x_1 (Safe.exa hZ8.alike E_1 (by decide) (by decide))
    refine GlW.pre (B := T8.setTop (mkF m 116 #[.val (.int p1), .val (.ref x_1), .val (.ref y_1), .val (.long (p1.toInt64)), .second, .val (.int (1 : Int32)), .val (.long (-(p1.toInt64))), .second, .val (.int (Int32.ofNat (SBG.digits (absN p1)))), .val (.int (1 : Int32)), .val (.int (((13 : Int32) + (Int32.ofNat (SBG.digits (absN p1)))) + (6 : Int32))), .val (.ref la7), .val (.ref la8), .unset, .unset, .unset, .unset, .unset, .unset] [(.int (0 : Int32)), (.ref la7), (.int (0 : Int32)), (.ref y_1)])) (fun _ k => st8 _ (XS.astore X8.here hx rfl (hb hby at_109) rfl rfl (l' := #[.val (.int p1), .val (.ref x_1), .val (.ref y_1), .val (.long (p1.toInt64)), .second, .val (.int (1 : Int32)), .val (.long (-(p1.toInt64))), .second, .val (.int (Int32.ofNat (SBG.digits (absN p1)))), .val (.int (1 : Int32)), .val (.int (((13 : Int32) + (Int32.ofNat (SBG.digits (absN p1)))) + (6 : Int32))), .val (.ref la7), .val (.ref la8), .unset, .unset, .unset, .unset, .unset, .unset]) rfl (XS.aloadN X8.here hx rfl (hb hby at_111) rfl rfl (XS.iconst X8.here hx rfl (hb hby at_112) (XS.aload X8.here hx rfl (hb hby at_113) rfl rfl (XS.iconst X8.here hx rfl (hb hby at_115) k)))))) ?_
    obtain ⟨rv9, _, ⟨T9, L9, k9, n9⟩, -, X9, ⟨Lc9, hQ9, l9, y9, z9⟩, st9⟩ := Jvm.LawKit.callS X8 hx (y := (⟨"com/example/bourse/bourse/exchange/BoundedFileTooLongPinLaw", "at", "(Ljava/lang/String;ILjava/lang/String;I)Z"⟩ : MethodName)) ho8 (mvT hZ8 (wq hw 240 rfl)) (mvT hZ8 (wq hw 241 rfl)) (mvT hZ8 (wq hw 234 rfl)) (mvT hZ8 (wq hw 242 rfl)) (by decide) (backOf (W := 0) (lawAt l Z a0 hw [] y_1 (0 : Int32) la7 (0 : Int32) 0 0 ty_1 ky_1 (msgL p1) lb7 _ preL G1 G3 h8 n0 Z0 sv_1 (pre_s E_la7 F_value_la7 F_coder_la7 V_lb7) (by decide) (msg_il (by decide)) (by decide) (by decide) (msg_pre (by decide)) O2 P5 O4 rG3 Od) hZ8 (wq hw 242 rfl) (wq hw 234 rfl) (by decide) (by decide)) (g := (mkF m 116 #[.val (.int p1), .val (.ref x_1), .val (.ref y_1), .val (.long (p1.toInt64)), .second, .val (.int (1 : Int32)), .val (.long (-(p1.toInt64))), .second, .val (.int (Int32.ofNat (SBG.digits (absN p1)))), .val (.int (1 : Int32)), .val (.int (((13 : Int32) + (Int32.ofNat (SBG.digits (absN p1)))) + (6 : Int32))), .val (.ref la7), .val (.ref la8), .unset, .unset, .unset, .unset, .unset, .unset] [(.int (0 : Int32)), (.ref la7), (.int (0 : Int32)), (.ref y_1)])) rfl (by rw [hml]; rfl) (argsL := [(.ref y_1), (.int (0 : Int32)), (.ref la7), (.int (0 : Int32))]) (rest := []) (lenOf pd_30 rfl) rfl (by show 2 * 0 + _ ≤ _; exact Nat.le_of_eq rfl) (hb hby at_116) (fun _ _ => ⟨rfl, e8, (by decide : 15 + 0 ≤ _), (by decide : 3040 + 0 ≤ _)⟩)
    dsimp only [Pt.U, Pt.locs, Pt.cells, Pt.slots] at X9 l9 y9 z9 st9 hQ9
    have X9 := own_reb X9 l9 y9 z9
    obtain ⟨rfl, N9q, e9⟩ := hQ9
    have N9 := Fr.app N6 N9q
    refine GlW.pre (B := T9.setTop (mkF m 127 #[.val (.int p1), .val (.ref x_1), .val (.ref y_1), .val (.long (p1.toInt64)), .second, .val (.int (1 : Int32)), .val (.long (-(p1.toInt64))), .second, .val (.int (Int32.ofNat (SBG.digits (absN p1)))), .val (.int (1 : Int32)), .val (.int (((13 : Int32) + (Int32.ofNat (SBG.digits (absN p1)))) + (6 : Int32))), .val (.ref la7), .val (.ref la8), .unset, .unset, .unset, .unset, .unset, .unset] [(.int (1 : Int32)), (.ref la7), (.int (0 : Int32)), (.ref y_1)])) (fun _ k => st9 _ (XS.ifNo X9.here hx rfl (hb hby at_119) rfl ((if0 _ _).trans (feq (by decide : ¬ ((1 : Int32) = (0 : Int32)))).1) (XS.aloadN X9.here hx rfl (hb hby at_122) rfl rfl (XS.iconst X9.here hx rfl (hb hby at_123) (XS.aload X9.here hx rfl (hb hby at_124) rfl rfl (XS.iconst X9.here hx rfl (hb hby at_126) k)))))) ?_
    obtain ⟨rv10, _, ⟨T10, L10, k10, n10⟩, -, X10, ⟨Lc10, hQ10, l10, y10, z10⟩, st10⟩ := Jvm.LawKit.callS X9 hx (y := (⟨"com/example/bourse/bourse/exchange/BoundedFileTooLongPinLaw", "at", "(Ljava/lang/String;ILjava/lang/String;I)Z"⟩ : MethodName)) ho8 (mvT hZ8 (wq hw 240 rfl)) (mvT hZ8 (wq hw 241 rfl)) (mvT hZ8 (wq hw 234 rfl)) (mvT hZ8 (wq hw 242 rfl)) (by decide) (backOf (W := 0) (lawAt l Z a0 hw [] y_1 (0 : Int32) la7 (1 : Int32) 1 1 ty_1 ky_1 (msgL p1) lb7 _ preL G1 G3 h8 n0 Z0 sv_1 (pre_s E_la7 F_value_la7 F_coder_la7 V_lb7) (by decide) (msg_il (by decide)) (by decide) (by decide) (msg_pre (by decide)) O2 P5 O4 rG3 Od) hZ8 (wq hw 242 rfl) (wq hw 234 rfl) (by decide) (by decide)) (g := (mkF m 127 #[.val (.int p1), .val (.ref x_1), .val (.ref y_1), .val (.long (p1.toInt64)), .second, .val (.int (1 : Int32)), .val (.long (-(p1.toInt64))), .second, .val (.int (Int32.ofNat (SBG.digits (absN p1)))), .val (.int (1 : Int32)), .val (.int (((13 : Int32) + (Int32.ofNat (SBG.digits (absN p1)))) + (6 : Int32))), .val (.ref la7), .val (.ref la8), .unset, .unset, .unset, .unset, .unset, .unset] [(.int (1 : Int32)), (.ref la7), (.int (0 : Int32)), (.ref y_1)])) rfl (by rw [hml]; rfl) (argsL := [(.ref y_1), (.int (0 : Int32)), (.ref la7), (.int (1 : Int32))]) (rest := []) (lenOf pd_30 rfl) rfl (by show 2 * 0 + _ ≤ _; exact Nat.le_of_eq rfl) (hb hby at_127) (fun _ _ => ⟨rfl, e9, (by decide : 15 + 0 ≤ _), (by decide : 3040 + 0 ≤ _)⟩)
    dsimp only [Pt.U, Pt.locs, Pt.cells, Pt.slots] at X10 l10 y10 z10 st10 hQ10
    have X10 := own_reb X10 l10 y10 z10
    obtain ⟨rfl, N10q, e10⟩ := hQ10
    have N10 := Fr.app N9 N10q
    refine GlW.pre (B := T10.setTop (mkF m 138 #[.val (.int p1), .val (.ref x_1), .val (.ref y_1), .val (.long (p1.toInt64)), .second, .val (.int (1 : Int32)), .val (.long (-(p1.toInt64))), .second, .val (.int (Int32.ofNat (SBG.digits (absN p1)))), .val (.int (1 : Int32)), .val (.int (((13 : Int32) + (Int32.ofNat (SBG.digits (absN p1)))) + (6 : Int32))), .val (.ref la7), .val (.ref la8), .unset, .unset, .unset, .unset, .unset, .unset] [(.int (2 : Int32)), (.ref la7), (.int (0 : Int32)), (.ref y_1)])) (fun _ k => st10 _ (XS.ifNo X10.here hx rfl (hb hby at_130) rfl ((if0 _ _).trans (feq (by decide : ¬ ((1 : Int32) = (0 : Int32)))).1) (XS.aloadN X10.here hx rfl (hb hby at_133) rfl rfl (XS.iconst X10.here hx rfl (hb hby at_134) (XS.aload X10.here hx rfl (hb hby at_135) rfl rfl (XS.iconst X10.here hx rfl (hb hby at_137) k)))))) ?_
    obtain ⟨rv11, _, ⟨T11, L11, k11, n11⟩, -, X11, ⟨Lc11, hQ11, l11, y11, z11⟩, st11⟩ := Jvm.LawKit.callS X10 hx (y := (⟨"com/example/bourse/bourse/exchange/BoundedFileTooLongPinLaw", "at", "(Ljava/lang/String;ILjava/lang/String;I)Z"⟩ : MethodName)) ho8 (mvT hZ8 (wq hw 240 rfl)) (mvT hZ8 (wq hw 241 rfl)) (mvT hZ8 (wq hw 234 rfl)) (mvT hZ8 (wq hw 242 rfl)) (by decide) (backOf (W := 0) (lawAt l Z a0 hw [] y_1 (0 : Int32) la7 (2 : Int32) 2 2 ty_1 ky_1 (msgL p1) lb7 _ preL G1 G3 h8 n0 Z0 sv_1 (pre_s E_la7 F_value_la7 F_coder_la7 V_lb7) (by decide) (msg_il (by decide)) (by decide) (by decide) (msg_pre (by decide)) O2 P5 O4 rG3 Od) hZ8 (wq hw 242 rfl) (wq hw 234 rfl) (by decide) (by decide)) (g := (mkF m 138 #[.val (.int p1), .val (.ref x_1), .val (.ref y_1), .val (.long (p1.toInt64)), .second, .val (.int (1 : Int32)), .val (.long (-(p1.toInt64))), .second, .val (.int (Int32.ofNat (SBG.digits (absN p1)))), .val (.int (1 : Int32)), .val (.int (((13 : Int32) + (Int32.ofNat (SBG.digits (absN p1)))) + (6 : Int32))), .val (.ref la7), .val (.ref la8), .unset, .unset, .unset, .unset, .unset, .unset] [(.int (2 : Int32)), (.ref la7), (.int (0 : Int32)), (.ref y_1)])) rfl (by rw [hml]; rfl) (argsL := [(.ref y_1), (.int (0 : Int32)), (.ref la7), (.int (2 : Int32))]) (rest := []) (lenOf pd_30 rfl) rfl (by show 2 * 0 + _ ≤ _; exact Nat.le_of_eq rfl) (hb hby at_138) (fun _ _ => ⟨rfl, e10, (by decide : 15 + 0 ≤ _), (by decide : 3040 + 0 ≤ _)⟩)
    dsimp only [Pt.U, Pt.locs, Pt.cells, Pt.slots] at X11 l11 y11 z11 st11 hQ11
    have X11 := own_reb X11 l11 y11 z11
    obtain ⟨rfl, N11q, e11⟩ := hQ11
    have N11 := Fr.app N10 N11q
    refine GlW.pre (B := T11.setTop (mkF m 149 #[.val (.int p1), .val (.ref x_1), .val (.ref y_1), .val (.long (p1.toInt64)), .second, .val (.int (1 : Int32)), .val (.long (-(p1.toInt64))), .second, .val (.int (Int32.ofNat (SBG.digits (absN p1)))), .val (.int (1 : Int32)), .val (.int (((13 : Int32) + (Int32.ofNat (SBG.digits (absN p1)))) + (6 : Int32))), .val (.ref la7), .val (.ref la8), .unset, .unset, .unset, .unset, .unset, .unset] [(.int (3 : Int32)), (.ref la7), (.int (0 : Int32)), (.ref y_1)])) (fun _ k => st11 _ (XS.ifNo X11.here hx rfl (hb hby at_141) rfl ((if0 _ _).trans (feq (by decide : ¬ ((1 : Int32) = (0 : Int32)))).1) (XS.aloadN X11.here hx rfl (hb hby at_144) rfl rfl (XS.iconst X11.here hx rfl (hb hby at_145) (XS.aload X11.here hx rfl (hb hby at_146) rfl rfl (XS.iconst X11.here hx rfl (hb hby at_148) k)))))) ?_
    obtain ⟨rv12, _, ⟨T12, L12, k12, n12⟩, -, X12, ⟨Lc12, hQ12, l12, y12, z12⟩, st12⟩ := Jvm.LawKit.callS X11 hx (y := (⟨"com/example/bourse/bourse/exchange/BoundedFileTooLongPinLaw", "at", "(Ljava/lang/String;ILjava/lang/String;I)Z"⟩ : MethodName)) ho8 (mvT hZ8 (wq hw 240 rfl)) (mvT hZ8 (wq hw 241 rfl)) (mvT hZ8 (wq hw 234 rfl)) (mvT hZ8 (wq hw 242 rfl)) (by decide) (backOf (W := 0) (lawAt l Z a0 hw [] y_1 (0 : Int32) la7 (3 : Int32) 3 3 ty_1 ky_1 (msgL p1) lb7 _ preL G1 G3 h8 n0 Z0 sv_1 (pre_s E_la7 F_value_la7 F_coder_la7 V_lb7) (by decide) (msg_il (by decide)) (by decide) (by decide) (msg_pre (by decide)) O2 P5 O4 rG3 Od) hZ8 (wq hw 242 rfl) (wq hw 234 rfl) (by decide) (by decide)) (g := (mkF m 149 #[.val (.int p1), .val (.ref x_1), .val (.ref y_1), .val (.long (p1.toInt64)), .second, .val (.int (1 : Int32)), .val (.long (-(p1.toInt64))), .second, .val (.int (Int32.ofNat (SBG.digits (absN p1)))), .val (.int (1 : Int32)), .val (.int (((13 : Int32) + (Int32.ofNat (SBG.digits (absN p1)))) + (6 : Int32))), .val (.ref la7), .val (.ref la8), .unset, .unset, .unset, .unset, .unset, .unset] [(.int (3 : Int32)), (.ref la7), (.int (0 : Int32)), (.ref y_1)])) rfl (by rw [hml]; rfl) (argsL := [(.ref y_1), (.int (0 : Int32)), (.ref la7), (.int (3 : Int32))]) (rest := []) (lenOf pd_30 rfl) rfl (by show 2 * 0 + _ ≤ _; exact Nat.le_of_eq rfl) (hb hby at_149) (fun _ _ => ⟨rfl, e11, (by decide : 15 + 0 ≤ _), (by decide : 3040 + 0 ≤ _)⟩)
    dsimp only [Pt.U, Pt.locs, Pt.cells, Pt.slots] at X12 l12 y12 z12 st12 hQ12
    have X12 := own_reb X12 l12 y12 z12
    obtain ⟨rfl, N12q, e12⟩ := hQ12
    have N12 := Fr.app N11 N12q
    refine GlW.pre (B := T12.setTop (mkF m 160 #[.val (.int p1), .val (.ref x_1), .val (.ref y_1), .val (.long (p1.toInt64)), .second, .val (.int (1 : Int32)), .val (.long (-(p1.toInt64))), .second, .val (.int (Int32.ofNat (SBG.digits (absN p1)))), .val (.int (1 : Int32)), .val (.int (((13 : Int32) + (Int32.ofNat (SBG.digits (absN p1)))) + (6 : Int32))), .val (.ref la7), .val (.ref la8), .unset, .unset, .unset, .unset, .unset, .unset] [(.int (4 : Int32)), (.ref la7), (.int (0 : Int32)), (.ref y_1)])) (fun _ k => st12 _ (XS.ifNo X12.here hx rfl (hb hby at_152) rfl ((if0 _ _).trans (feq (by decide : ¬ ((1 : Int32) = (0 : Int32)))).1) (XS.aloadN X12.here hx rfl (hb hby at_155) rfl rfl (XS.iconst X12.here hx rfl (hb hby at_156) (XS.aload X12.here hx rfl (hb hby at_157) rfl rfl (XS.iconst X12.here hx rfl (hb hby at_159) k)))))) ?_
    obtain ⟨rv13, _, ⟨T13, L13, k13, n13⟩, -, X13, ⟨Lc13, hQ13, l13, y13, z13⟩, st13⟩ := Jvm.LawKit.callS X12 hx (y := (⟨"com/example/bourse/bourse/exchange/BoundedFileTooLongPinLaw", "at", "(Ljava/lang/String;ILjava/lang/String;I)Z"⟩ : MethodName)) ho8 (mvT hZ8 (wq hw 240 rfl)) (mvT hZ8 (wq hw 241 rfl)) (mvT hZ8 (wq hw 234 rfl)) (mvT hZ8 (wq hw 242 rfl)) (by decide) (backOf (W := 0) (lawAt l Z a0 hw [] y_1 (0 : Int32) la7 (4 : Int32) 4 4 ty_1 ky_1 (msgL p1) lb7 _ preL G1 G3 h8 n0 Z0 sv_1 (pre_s E_la7 F_value_la7 F_coder_la7 V_lb7) (by decide) (msg_il (by decide)) (by decide) (by decide) (msg_pre (by decide)) O2 P5 O4 rG3 Od) hZ8 (wq hw 242 rfl) (wq hw 234 rfl) (by decide) (by decide)) (g := (mkF m 160 #[.val (.int p1), .val (.ref x_1), .val (.ref y_1), .val (.long (p1.toInt64)), .second, .val (.int (1 : Int32)), .val (.long (-(p1.toInt64))), .second, .val (.int (Int32.ofNat (SBG.digits (absN p1)))), .val (.int (1 : Int32)), .val (.int (((13 : Int32) + (Int32.ofNat (SBG.digits (absN p1)))) + (6 : Int32))), .val (.ref la7), .val (.ref la8), .unset, .unset, .unset, .unset, .unset, .unset] [(.int (4 : Int32)), (.ref la7), (.int (0 : Int32)), (.ref y_1)])) rfl (by rw [hml]; rfl) (argsL := [(.ref y_1), (.int (0 : Int32)), (.ref la7), (.int (4 : Int32))]) (rest := []) (lenOf pd_30 rfl) rfl (by show 2 * 0 + _ ≤ _; exact Nat.le_of_eq rfl) (hb hby at_160) (fun _ _ => ⟨rfl, e12, (by decide : 15 + 0 ≤ _), (by decide : 3040 + 0 ≤ _)⟩)
    dsimp only [Pt.U, Pt.locs, Pt.cells, Pt.slots] at X13 l13 y13 z13 st13 hQ13
    have X13 := own_reb X13 l13 y13 z13
    obtain ⟨rfl, N13q, e13⟩ := hQ13
    have N13 := Fr.app N12 N13q
    refine GlW.pre (B := T13.setTop (mkF m 171 #[.val (.int p1), .val (.ref x_1), .val (.ref y_1), .val (.long (p1.toInt64)), .second, .val (.int (1 : Int32)), .val (.long (-(p1.toInt64))), .second, .val (.int (Int32.ofNat (SBG.digits (absN p1)))), .val (.int (1 : Int32)), .val (.int (((13 : Int32) + (Int32.ofNat (SBG.digits (absN p1)))) + (6 : Int32))), .val (.ref la7), .val (.ref la8), .unset, .unset, .unset, .unset, .unset, .unset] [(.int (5 : Int32)), (.ref la7), (.int (0 : Int32)), (.ref y_1)])) (fun _ k => st13 _ (XS.ifNo X13.here hx rfl (hb hby at_163) rfl ((if0 _ _).trans (feq (by decide : ¬ ((1 : Int32) = (0 : Int32)))).1) (XS.aloadN X13.here hx rfl (hb hby at_166) rfl rfl (XS.iconst X13.here hx rfl (hb hby at_167) (XS.aload X13.here hx rfl (hb hby at_168) rfl rfl (XS.iconst X13.here hx rfl (hb hby at_170) k)))))) ?_
    obtain ⟨rv14, _, ⟨T14, L14, k14, n14⟩, -, X14, ⟨Lc14, hQ14, l14, y14, z14⟩, st14⟩ := Jvm.LawKit.callS X13 hx (y := (⟨"com/example/bourse/bourse/exchange/BoundedFileTooLongPinLaw", "at", "(Ljava/lang/String;ILjava/lang/String;I)Z"⟩ : MethodName)) ho8 (mvT hZ8 (wq hw 240 rfl)) (mvT hZ8 (wq hw 241 rfl)) (mvT hZ8 (wq hw 234 rfl)) (mvT hZ8 (wq hw 242 rfl)) (by decide) (backOf (W := 0) (lawAt l Z a0 hw [] y_1 (0 : Int32) la7 (5 : Int32) 5 5 ty_1 ky_1 (msgL p1) lb7 _ preL G1 G3 h8 n0 Z0 sv_1 (pre_s E_la7 F_value_la7 F_coder_la7 V_lb7) (by decide) (msg_il (by decide)) (by decide) (by decide) (msg_pre (by decide)) O2 P5 O4 rG3 Od) hZ8 (wq hw 242 rfl) (wq hw 234 rfl) (by decide) (by decide)) (g := (mkF m 171 #[.val (.int p1), .val (.ref x_1), .val (.ref y_1), .val (.long (p1.toInt64)), .second, .val (.int (1 : Int32)), .val (.long (-(p1.toInt64))), .second, .val (.int (Int32.ofNat (SBG.digits (absN p1)))), .val (.int (1 : Int32)), .val (.int (((13 : Int32) + (Int32.ofNat (SBG.digits (absN p1)))) + (6 : Int32))), .val (.ref la7), .val (.ref la8), .unset, .unset, .unset, .unset, .unset, .unset] [(.int (5 : Int32)), (.ref la7), (.int (0 : Int32)), (.ref y_1)])) rfl (by rw [hml]; rfl) (argsL := [(.ref y_1), (.int (0 : Int32)), (.ref la7), (.int (5 : Int32))]) (rest := []) (lenOf pd_30 rfl) rfl (by show 2 * 0 + _ ≤ _; exact Nat.le_of_eq rfl) (hb hby at_171) (fun _ _ => ⟨rfl, e13, (by decide : 15 + 0 ≤ _), (by decide : 3040 + 0 ≤ _)⟩)
    dsimp only [Pt.U, Pt.locs, Pt.cells, Pt.slots] at X14 l14 y14 z14 st14 hQ14
    have X14 := own_reb X14 l14 y14 z14
    obtain ⟨rfl, N14q, e14⟩ := hQ14
    have N14 := Fr.app N13 N14q
    refine GlW.pre (B := T14.setTop (mkF m 183 #[.val (.int p1), .val (.ref x_1), .val (.ref y_1), .val (.long (p1.toInt64)), .second, .val (.int (1 : Int32)), .val (.long (-(p1.toInt64))), .second, .val (.int (Int32.ofNat (SBG.digits (absN p1)))), .val (.int (1 : Int32)), .val (.int (((13 : Int32) + (Int32.ofNat (SBG.digits (absN p1)))) + (6 : Int32))), .val (.ref la7), .val (.ref la8), .unset, .unset, .unset, .unset, .unset, .unset] [(.int (6 : Int32)), (.ref la7), (.int (0 : Int32)), (.ref y_1)])) (fun _ k => st14 _ (XS.ifNo X14.here hx rfl (hb hby at_174) rfl ((if0 _ _).trans (feq (by decide : ¬ ((1 : Int32) = (0 : Int32)))).1) (XS.aloadN X14.here hx rfl (hb hby at_177) rfl rfl (XS.iconst X14.here hx rfl (hb hby at_178) (XS.aload X14.here hx rfl (hb hby at_179) rfl rfl (XS.bipush X14.here hx rfl (hb hby at_181) k)))))) ?_
    obtain ⟨rv15, _, ⟨T15, L15, k15, n15⟩, -, X15, ⟨Lc15, hQ15, l15, y15, z15⟩, st15⟩ := Jvm.LawKit.callS X14 hx (y := (⟨"com/example/bourse/bourse/exchange/BoundedFileTooLongPinLaw", "at", "(Ljava/lang/String;ILjava/lang/String;I)Z"⟩ : MethodName)) ho8 (mvT hZ8 (wq hw 240 rfl)) (mvT hZ8 (wq hw 241 rfl)) (mvT hZ8 (wq hw 234 rfl)) (mvT hZ8 (wq hw 242 rfl)) (by decide) (backOf (W := 0) (lawAt l Z a0 hw [] y_1 (0 : Int32) la7 (6 : Int32) 6 6 ty_1 ky_1 (msgL p1) lb7 _ preL G1 G3 h8 n0 Z0 sv_1 (pre_s E_la7 F_value_la7 F_coder_la7 V_lb7) (by decide) (msg_il (by decide)) (by decide) (by decide) (msg_pre (by decide)) O2 P5 O4 rG3 Od) hZ8 (wq hw 242 rfl) (wq hw 234 rfl) (by decide) (by decide)) (g := (mkF m 183 #[.val (.int p1), .val (.ref x_1), .val (.ref y_1), .val (.long (p1.toInt64)), .second, .val (.int (1 : Int32)), .val (.long (-(p1.toInt64))), .second, .val (.int (Int32.ofNat (SBG.digits (absN p1)))), .val (.int (1 : Int32)), .val (.int (((13 : Int32) + (Int32.ofNat (SBG.digits (absN p1)))) + (6 : Int32))), .val (.ref la7), .val (.ref la8), .unset, .unset, .unset, .unset, .unset, .unset] [(.int (6 : Int32)), (.ref la7), (.int (0 : Int32)), (.ref y_1)])) rfl (by rw [hml]; rfl) (argsL := [(.ref y_1), (.int (0 : Int32)), (.ref la7), (.int (6 : Int32))]) (rest := []) (lenOf pd_30 rfl) rfl (by show 2 * 0 + _ ≤ _; exact Nat.le_of_eq rfl) (hb hby at_183) (fun _ _ => ⟨rfl, e14, (by decide : 15 + 0 ≤ _), (by decide : 3040 + 0 ≤ _)⟩)
    dsimp only [Pt.U, Pt.locs, Pt.cells, Pt.slots] at X15 l15 y15 z15 st15 hQ15
    have X15 := own_reb X15 l15 y15 z15
    obtain ⟨rfl, N15q, e15⟩ := hQ15
    have N15 := Fr.app N14 N15q
    refine GlW.pre (B := T15.setTop (mkF m 195 #[.val (.int p1), .val (.ref x_1), .val (.ref y_1), .val (.long (p1.toInt64)), .second, .val (.int (1 : Int32)), .val (.long (-(p1.toInt64))), .second, .val (.int (Int32.ofNat (SBG.digits (absN p1)))), .val (.int (1 : Int32)), .val (.int (((13 : Int32) + (Int32.ofNat (SBG.digits (absN p1)))) + (6 : Int32))), .val (.ref la7), .val (.ref la8), .unset, .unset, .unset, .unset, .unset, .unset] [(.int (7 : Int32)), (.ref la7), (.int (0 : Int32)), (.ref y_1)])) (fun _ k => st15 _ (XS.ifNo X15.here hx rfl (hb hby at_186) rfl ((if0 _ _).trans (feq (by decide : ¬ ((1 : Int32) = (0 : Int32)))).1) (XS.aloadN X15.here hx rfl (hb hby at_189) rfl rfl (XS.iconst X15.here hx rfl (hb hby at_190) (XS.aload X15.here hx rfl (hb hby at_191) rfl rfl (XS.bipush X15.here hx rfl (hb hby at_193) k)))))) ?_
    obtain ⟨rv16, _, ⟨T16, L16, k16, n16⟩, -, X16, ⟨Lc16, hQ16, l16, y16, z16⟩, st16⟩ := Jvm.LawKit.callS X15 hx (y := (⟨"com/example/bourse/bourse/exchange/BoundedFileTooLongPinLaw", "at", "(Ljava/lang/String;ILjava/lang/String;I)Z"⟩ : MethodName)) ho8 (mvT hZ8 (wq hw 240 rfl)) (mvT hZ8 (wq hw 241 rfl)) (mvT hZ8 (wq hw 234 rfl)) (mvT hZ8 (wq hw 242 rfl)) (by decide) (backOf (W := 0) (lawAt l Z a0 hw [] y_1 (0 : Int32) la7 (7 : Int32) 7 7 ty_1 ky_1 (msgL p1) lb7 _ preL G1 G3 h8 n0 Z0 sv_1 (pre_s E_la7 F_value_la7 F_coder_la7 V_lb7) (by decide) (msg_il (by decide)) (by decide) (by decide) (msg_pre (by decide)) O2 P5 O4 rG3 Od) hZ8 (wq hw 242 rfl) (wq hw 234 rfl) (by decide) (by decide)) (g := (mkF m 195 #[.val (.int p1), .val (.ref x_1), .val (.ref y_1), .val (.long (p1.toInt64)), .second, .val (.int (1 : Int32)), .val (.long (-(p1.toInt64))), .second, .val (.int (Int32.ofNat (SBG.digits (absN p1)))), .val (.int (1 : Int32)), .val (.int (((13 : Int32) + (Int32.ofNat (SBG.digits (absN p1)))) + (6 : Int32))), .val (.ref la7), .val (.ref la8), .unset, .unset, .unset, .unset, .unset, .unset] [(.int (7 : Int32)), (.ref la7), (.int (0 : Int32)), (.ref y_1)])) rfl (by rw [hml]; rfl) (argsL := [(.ref y_1), (.int (0 : Int32)), (.ref la7), (.int (7 : Int32))]) (rest := []) (lenOf pd_30 rfl) rfl (by show 2 * 0 + _ ≤ _; exact Nat.le_of_eq rfl) (hb hby at_195) (fun _ _ => ⟨rfl, e15, (by decide : 15 + 0 ≤ _), (by decide : 3040 + 0 ≤ _)⟩)
    dsimp only [Pt.U, Pt.locs, Pt.cells, Pt.slots] at X16 l16 y16 z16 st16 hQ16
    have X16 := own_reb X16 l16 y16 z16
    obtain ⟨rfl, N16q, e16⟩ := hQ16
    have N16 := Fr.app N15 N16q
    refine GlW.pre (B := T16.setTop (mkF m 207 #[.val (.int p1), .val (.ref x_1), .val (.ref y_1), .val (.long (p1.toInt64)), .second, .val (.int (1 : Int32)), .val (.long (-(p1.toInt64))), .second, .val (.int (Int32.ofNat (SBG.digits (absN p1)))), .val (.int (1 : Int32)), .val (.int (((13 : Int32) + (Int32.ofNat (SBG.digits (absN p1)))) + (6 : Int32))), .val (.ref la7), .val (.ref la8), .unset, .unset, .unset, .unset, .unset, .unset] [(.int (8 : Int32)), (.ref la7), (.int (0 : Int32)), (.ref y_1)])) (fun _ k => st16 _ (XS.ifNo X16.here hx rfl (hb hby at_198) rfl ((if0 _ _).trans (feq (by decide : ¬ ((1 : Int32) = (0 : Int32)))).1) (XS.aloadN X16.here hx rfl (hb hby at_201) rfl rfl (XS.iconst X16.here hx rfl (hb hby at_202) (XS.aload X16.here hx rfl (hb hby at_203) rfl rfl (XS.bipush X16.here hx rfl (hb hby at_205) k)))))) ?_
    obtain ⟨rv17, _, ⟨T17, L17, k17, n17⟩, -, X17, ⟨Lc17, hQ17, l17, y17, z17⟩, st17⟩ := Jvm.LawKit.callS X16 hx (y := (⟨"com/example/bourse/bourse/exchange/BoundedFileTooLongPinLaw", "at", "(Ljava/lang/String;ILjava/lang/String;I)Z"⟩ : MethodName)) ho8 (mvT hZ8 (wq hw 240 rfl)) (mvT hZ8 (wq hw 241 rfl)) (mvT hZ8 (wq hw 234 rfl)) (mvT hZ8 (wq hw 242 rfl)) (by decide) (backOf (W := 0) (lawAt l Z a0 hw [] y_1 (0 : Int32) la7 (8 : Int32) 8 8 ty_1 ky_1 (msgL p1) lb7 _ preL G1 G3 h8 n0 Z0 sv_1 (pre_s E_la7 F_value_la7 F_coder_la7 V_lb7) (by decide) (msg_il (by decide)) (by decide) (by decide) (msg_pre (by decide)) O2 P5 O4 rG3 Od) hZ8 (wq hw 242 rfl) (wq hw 234 rfl) (by decide) (by decide)) (g := (mkF m 207 #[.val (.int p1), .val (.ref x_1), .val (.ref y_1), .val (.long (p1.toInt64)), .second, .val (.int (1 : Int32)), .val (.long (-(p1.toInt64))), .second, .val (.int (Int32.ofNat (SBG.digits (absN p1)))), .val (.int (1 : Int32)), .val (.int (((13 : Int32) + (Int32.ofNat (SBG.digits (absN p1)))) + (6 : Int32))), .val (.ref la7), .val (.ref la8), .unset, .unset, .unset, .unset, .unset, .unset] [(.int (8 : Int32)), (.ref la7), (.int (0 : Int32)), (.ref y_1)])) rfl (by rw [hml]; rfl) (argsL := [(.ref y_1), (.int (0 : Int32)), (.ref la7), (.int (8 : Int32))]) (rest := []) (lenOf pd_30 rfl) rfl (by show 2 * 0 + _ ≤ _; exact Nat.le_of_eq rfl) (hb hby at_207) (fun _ _ => ⟨rfl, e16, (by decide : 15 + 0 ≤ _), (by decide : 3040 + 0 ≤ _)⟩)
    dsimp only [Pt.U, Pt.locs, Pt.cells, Pt.slots] at X17 l17 y17 z17 st17 hQ17
    have X17 := own_reb X17 l17 y17 z17
    obtain ⟨rfl, N17q, e17⟩ := hQ17
    have N17 := Fr.app N16 N17q
    refine GlW.pre (B := T17.setTop (mkF m 219 #[.val (.int p1), .val (.ref x_1), .val (.ref y_1), .val (.long (p1.toInt64)), .second, .val (.int (1 : Int32)), .val (.long (-(p1.toInt64))), .second, .val (.int (Int32.ofNat (SBG.digits (absN p1)))), .val (.int (1 : Int32)), .val (.int (((13 : Int32) + (Int32.ofNat (SBG.digits (absN p1)))) + (6 : Int32))), .val (.ref la7), .val (.ref la8), .unset, .unset, .unset, .unset, .unset, .unset] [(.int (9 : Int32)), (.ref la7), (.int (0 : Int32)), (.ref y_1)])) (fun _ k => st17 _ (XS.ifNo X17.here hx rfl (hb hby at_210) rfl ((if0 _ _).trans (feq (by decide : ¬ ((1 : Int32) = (0 : Int32)))).1) (XS.aloadN X17.here hx rfl (hb hby at_213) rfl rfl (XS.iconst X17.here hx rfl (hb hby at_214) (XS.aload X17.here hx rfl (hb hby at_215) rfl rfl (XS.bipush X17.here hx rfl (hb hby at_217) k)))))) ?_
    obtain ⟨rv18, _, ⟨T18, L18, k18, n18⟩, -, X18, ⟨Lc18, hQ18, l18, y18, z18⟩, st18⟩ := Jvm.LawKit.callS X17 hx (y := (⟨"com/example/bourse/bourse/exchange/BoundedFileTooLongPinLaw", "at", "(Ljava/lang/String;ILjava/lang/String;I)Z"⟩ : MethodName)) ho8 (mvT hZ8 (wq hw 240 rfl)) (mvT hZ8 (wq hw 241 rfl)) (mvT hZ8 (wq hw 234 rfl)) (mvT hZ8 (wq hw 242 rfl)) (by decide) (backOf (W := 0) (lawAt l Z a0 hw [] y_1 (0 : Int32) la7 (9 : Int32) 9 9 ty_1 ky_1 (msgL p1) lb7 _ preL G1 G3 h8 n0 Z0 sv_1 (pre_s E_la7 F_value_la7 F_coder_la7 V_lb7) (by decide) (msg_il (by decide)) (by decide) (by decide) (msg_pre (by decide)) O2 P5 O4 rG3 Od) hZ8 (wq hw 242 rfl) (wq hw 234 rfl) (by decide) (by decide)) (g := (mkF m 219 #[.val (.int p1), .val (.ref x_1), .val (.ref y_1), .val (.long (p1.toInt64)), .second, .val (.int (1 : Int32)), .val (.long (-(p1.toInt64))), .second, .val (.int (Int32.ofNat (SBG.digits (absN p1)))), .val (.int (1 : Int32)), .val (.int (((13 : Int32) + (Int32.ofNat (SBG.digits (absN p1)))) + (6 : Int32))), .val (.ref la7), .val (.ref la8), .unset, .unset, .unset, .unset, .unset, .unset] [(.int (9 : Int32)), (.ref la7), (.int (0 : Int32)), (.ref y_1)])) rfl (by rw [hml]; rfl) (argsL := [(.ref y_1), (.int (0 : Int32)), (.ref la7), (.int (9 : Int32))]) (rest := []) (lenOf pd_30 rfl) rfl (by show 2 * 0 + _ ≤ _; exact Nat.le_of_eq rfl) (hb hby at_219) (fun _ _ => ⟨rfl, e17, (by decide : 15 + 0 ≤ _), (by decide : 3040 + 0 ≤ _)⟩)
    dsimp only [Pt.U, Pt.locs, Pt.cells, Pt.slots] at X18 l18 y18 z18 st18 hQ18
    have X18 := own_reb X18 l18 y18 z18
    obtain ⟨rfl, N18q, e18⟩ := hQ18
    have N18 := Fr.app N17 N18q
    refine GlW.pre (B := T18.setTop (mkF m 231 #[.val (.int p1), .val (.ref x_1), .val (.ref y_1), .val (.long (p1.toInt64)), .second, .val (.int (1 : Int32)), .val (.long (-(p1.toInt64))), .second, .val (.int (Int32.ofNat (SBG.digits (absN p1)))), .val (.int (1 : Int32)), .val (.int (((13 : Int32) + (Int32.ofNat (SBG.digits (absN p1)))) + (6 : Int32))), .val (.ref la7), .val (.ref la8), .unset, .unset, .unset, .unset, .unset, .unset] [(.int (10 : Int32)), (.ref la7), (.int (0 : Int32)), (.ref y_1)])) (fun _ k => st18 _ (XS.ifNo X18.here hx rfl (hb hby at_222) rfl ((if0 _ _).trans (feq (by decide : ¬ ((1 : Int32) = (0 : Int32)))).1) (XS.aloadN X18.here hx rfl (hb hby at_225) rfl rfl (XS.iconst X18.here hx rfl (hb hby at_226) (XS.aload X18.here hx rfl (hb hby at_227) rfl rfl (XS.bipush X18.here hx rfl (hb hby at_229) k)))))) ?_
    obtain ⟨rv19, _, ⟨T19, L19, k19, n19⟩, -, X19, ⟨Lc19, hQ19, l19, y19, z19⟩, st19⟩ := Jvm.LawKit.callS X18 hx (y := (⟨"com/example/bourse/bourse/exchange/BoundedFileTooLongPinLaw", "at", "(Ljava/lang/String;ILjava/lang/String;I)Z"⟩ : MethodName)) ho8 (mvT hZ8 (wq hw 240 rfl)) (mvT hZ8 (wq hw 241 rfl)) (mvT hZ8 (wq hw 234 rfl)) (mvT hZ8 (wq hw 242 rfl)) (by decide) (backOf (W := 0) (lawAt l Z a0 hw [] y_1 (0 : Int32) la7 (10 : Int32) 10 10 ty_1 ky_1 (msgL p1) lb7 _ preL G1 G3 h8 n0 Z0 sv_1 (pre_s E_la7 F_value_la7 F_coder_la7 V_lb7) (by decide) (msg_il (by decide)) (by decide) (by decide) (msg_pre (by decide)) O2 P5 O4 rG3 Od) hZ8 (wq hw 242 rfl) (wq hw 234 rfl) (by decide) (by decide)) (g := (mkF m 231 #[.val (.int p1), .val (.ref x_1), .val (.ref y_1), .val (.long (p1.toInt64)), .second, .val (.int (1 : Int32)), .val (.long (-(p1.toInt64))), .second, .val (.int (Int32.ofNat (SBG.digits (absN p1)))), .val (.int (1 : Int32)), .val (.int (((13 : Int32) + (Int32.ofNat (SBG.digits (absN p1)))) + (6 : Int32))), .val (.ref la7), .val (.ref la8), .unset, .unset, .unset, .unset, .unset, .unset] [(.int (10 : Int32)), (.ref la7), (.int (0 : Int32)), (.ref y_1)])) rfl (by rw [hml]; rfl) (argsL := [(.ref y_1), (.int (0 : Int32)), (.ref la7), (.int (10 : Int32))]) (rest := []) (lenOf pd_30 rfl) rfl (by show 2 * 0 + _ ≤ _; exact Nat.le_of_eq rfl) (hb hby at_231) (fun _ _ => ⟨rfl, e18, (by decide : 15 + 0 ≤ _), (by decide : 3040 + 0 ≤ _)⟩)
    dsimp only [Pt.U, Pt.locs, Pt.cells, Pt.slots] at X19 l19 y19 z19 st19 hQ19
    have X19 := own_reb X19 l19 y19 z19
    obtain ⟨rfl, N19q, e19⟩ := hQ19
    have N19 := Fr.app N18 N19q
    refine GlW.pre (B := T19.setTop (mkF m 243 #[.val (.int p1), .val (.ref x_1), .val (.ref y_1), .val (.long (p1.toInt64)), .second, .val (.int (1 : Int32)), .val (.long (-(p1.toInt64))), .second, .val (.int (Int32.ofNat (SBG.digits (absN p1)))), .val (.int (1 : Int32)), .val (.int (((13 : Int32) + (Int32.ofNat (SBG.digits (absN p1)))) + (6 : Int32))), .val (.ref la7), .val (.ref la8), .unset, .unset, .unset, .unset, .unset, .unset] [(.int (11 : Int32)), (.ref la7), (.int (0 : Int32)), (.ref y_1)])) (fun _ k => st19 _ (XS.ifNo X19.here hx rfl (hb hby at_234) rfl ((if0 _ _).trans (feq (by decide : ¬ ((1 : Int32) = (0 : Int32)))).1) (XS.aloadN X19.here hx rfl (hb hby at_237) rfl rfl (XS.iconst X19.here hx rfl (hb hby at_238) (XS.aload X19.here hx rfl (hb hby at_239) rfl rfl (XS.bipush X19.here hx rfl (hb hby at_241) k)))))) ?_
    obtain ⟨rv20, _, ⟨T20, L20, k20, n20⟩, -, X20, ⟨Lc20, hQ20, l20, y20, z20⟩, st20⟩ := Jvm.LawKit.callS X19 hx (y := (⟨"com/example/bourse/bourse/exchange/BoundedFileTooLongPinLaw", "at", "(Ljava/lang/String;ILjava/lang/String;I)Z"⟩ : MethodName)) ho8 (mvT hZ8 (wq hw 240 rfl)) (mvT hZ8 (wq hw 241 rfl)) (mvT hZ8 (wq hw 234 rfl)) (mvT hZ8 (wq hw 242 rfl)) (by decide) (backOf (W := 0) (lawAt l Z a0 hw [] y_1 (0 : Int32) la7 (11 : Int32) 11 11 ty_1 ky_1 (msgL p1) lb7 _ preL G1 G3 h8 n0 Z0 sv_1 (pre_s E_la7 F_value_la7 F_coder_la7 V_lb7) (by decide) (msg_il (by decide)) (by decide) (by decide) (msg_pre (by decide)) O2 P5 O4 rG3 Od) hZ8 (wq hw 242 rfl) (wq hw 234 rfl) (by decide) (by decide)) (g := (mkF m 243 #[.val (.int p1), .val (.ref x_1), .val (.ref y_1), .val (.long (p1.toInt64)), .second, .val (.int (1 : Int32)), .val (.long (-(p1.toInt64))), .second, .val (.int (Int32.ofNat (SBG.digits (absN p1)))), .val (.int (1 : Int32)), .val (.int (((13 : Int32) + (Int32.ofNat (SBG.digits (absN p1)))) + (6 : Int32))), .val (.ref la7), .val (.ref la8), .unset, .unset, .unset, .unset, .unset, .unset] [(.int (11 : Int32)), (.ref la7), (.int (0 : Int32)), (.ref y_1)])) rfl (by rw [hml]; rfl) (argsL := [(.ref y_1), (.int (0 : Int32)), (.ref la7), (.int (11 : Int32))]) (rest := []) (lenOf pd_30 rfl) rfl (by show 2 * 0 + _ ≤ _; exact Nat.le_of_eq rfl) (hb hby at_243) (fun _ _ => ⟨rfl, e19, (by decide : 15 + 0 ≤ _), (by decide : 3040 + 0 ≤ _)⟩)
    dsimp only [Pt.U, Pt.locs, Pt.cells, Pt.slots] at X20 l20 y20 z20 st20 hQ20
    have X20 := own_reb X20 l20 y20 z20
    obtain ⟨rfl, N20q, e20⟩ := hQ20
    have N20 := Fr.app N19 N20q
    refine GlW.pre (B := T20.setTop (mkF m 262 #[.val (.int p1), .val (.ref x_1), .val (.ref y_1), .val (.long (p1.toInt64)), .second, .val (.int (1 : Int32)), .val (.long (-(p1.toInt64))), .second, .val (.int (Int32.ofNat (SBG.digits (absN p1)))), .val (.int (1 : Int32)), .val (.int (((13 : Int32) + (Int32.ofNat (SBG.digits (absN p1)))) + (6 : Int32))), .val (.ref la7), .val (.ref la8), .val (.int (1 : Int32)), .unset, .unset, .unset, .unset, .unset] [(.ref y_1)])) (fun _ k => st20 _ (XS.ifNo X20.here hx rfl (hb hby at_246) rfl ((if0 _ _).trans (feq (by decide : ¬ ((1 : Int32) = (0 : Int32)))).1) (XS.iconst X20.here hx rfl (hb hby at_249) (XS.goto X20.here hx rfl (pc0 := 250) (pc' := 254) rfl (hb hby at_250) (by decide) (by decide) (XS.istore X20.here hx rfl (hb hby at_254) rfl (l' := #[.val (.int p1), .val (.ref x_1), .val (.ref y_1), .val (.long (p1.toInt64)), .second, .val (.int (1 : Int32)), .val (.long (-(p1.toInt64))), .second, .val (.int (Int32.ofNat (SBG.digits (absN p1)))), .val (.int (1 : Int32)), .val (.int (((13 : Int32) + (Int32.ofNat (SBG.digits (absN p1)))) + (6 : Int32))), .val (.ref la7), .val (.ref la8), .val (.int (1 : Int32)), .unset, .unset, .unset, .unset, .unset]) rfl (XS.iload X20.here hx rfl (hb hby at_256) rfl (XS.ifNo X20.here hx rfl (hb hby at_258) rfl ((if0 _ _).trans (feq (by decide : ¬ ((1 : Int32) = (0 : Int32)))).1) (XS.aloadN X20.here hx rfl (hb hby at_261) rfl rfl k)))))))) ?_
    refine GlW.pre (B := T20.setTop (mkF m 264 #[.val (.int p1), .val (.ref x_1), .val (.ref y_1), .val (.long (p1.toInt64)), .second, .val (.int (1 : Int32)), .val (.long (-(p1.toInt64))), .second, .val (.int (Int32.ofNat (SBG.digits (absN p1)))), .val (.int (1 : Int32)), .val (.int (((13 : Int32) + (Int32.ofNat (SBG.digits (absN p1)))) + (6 : Int32))), .val (.ref la7), .val (.ref la8), .val (.int (1 : Int32)), .unset, .unset, .unset, .unset, .unset] [(.int (12 : Int32)), (.ref y_1)])) (fun _ k => XS.bipush X20.here hx rfl (hb hby at_262) k) ?_
    obtain ⟨cq21, kq21, q21a, q21b, q21c⟩ := isOf hZ8 e20 E_y_1
    obtain ⟨rv21, _, ⟨T21, L21, k21, n21⟩, -, X21, ⟨Lc21, hQ21, l21, y21, z21⟩, st21⟩ := X20.virtualBack hx (y := (⟨"java/lang/String", "charAt", "(I)C"⟩ : MethodName)) (z := (⟨"java/lang/String", "charAt", "(I)C"⟩ : MethodName)) ho8 (mvT hZ8 (wq hw 243 rfl)) (mvT hZ8 (wq hw 244 rfl)) (notFace_of_selects (args := #[]) (mvT hZ8 (wq hw 246 rfl))) (mvT hZ8 (wq hw 246 rfl)) (mvT hZ8 (wq hw 245 rfl)) (by decide) (backOf (W := 0) (strChar l Z a0 hw [] y_1 (12 : Int32) 12 ty_1 ky_1 (msgL p1) G1 G3 h8 n0 Z0 sv_1 (by decide) (msg_il (by decide)) O2 P5 O4 rG3 Od) hZ8 (wq hw 247 rfl) (wq hw 23 rfl) (by decide) (by decide)) q21a q21c (g := (mkF m 264 #[.val (.int p1), .val (.ref x_1), .val (.ref y_1), .val (.long (p1.toInt64)), .second, .val (.int (1 : Int32)), .val (.long (-(p1.toInt64))), .second, .val (.int (Int32.ofNat (SBG.digits (absN p1)))), .val (.int (1 : Int32)), .val (.int (((13 : Int32) + (Int32.ofNat (SBG.digits (absN p1)))) + (6 : Int32))), .val (.ref la7), .val (.ref la8), .val (.int (1 : Int32)), .unset, .unset, .unset, .unset, .unset] [(.int (12 : Int32)), (.ref y_1)])) rfl (by rw [hml]; rfl) (Steps.refl _) (argsL := [(.int (12 : Int32))]) (rest := []) (lenOf pd_22 rfl) rfl (by show 2 * 0 + _ ≤ _; exact Nat.le_of_eq rfl) (hb hby at_264) (fun _ _ => ⟨rfl, e20, (by decide : 15 + 0 ≤ _), (by decide : 3040 + 0 ≤ _)⟩)
    dsimp only [Pt.U, Pt.locs, Pt.cells, Pt.slots] at X21 l21 y21 z21 st21 hQ21
    have X21 := own_reb X21 l21 y21 z21
    obtain ⟨rfl, N21q, e21⟩ := hQ21
    have N21 := Fr.app N20 N21q
    refine GlW.pre (B := T21.setTop (mkF m 283 #[.val (.int p1), .val (.ref x_1), .val (.ref y_1), .val (.long (p1.toInt64)), .second, .val (.int (1 : Int32)), .val (.long (-(p1.toInt64))), .second, .val (.int (Int32.ofNat (SBG.digits (absN p1)))), .val (.int (1 : Int32)), .val (.int (((13 : Int32) + (Int32.ofNat (SBG.digits (absN p1)))) + (6 : Int32))), .val (.ref la7), .val (.ref la8), .val (.int (1 : Int32)), .val (.int (1 : Int32)), .unset, .unset, .unset, .unset] [(.int (1 : Int32)), (.int (12 : Int32))])) (fun _ k => st21.trans (XS.bipush X21.here hx rfl (hb hby at_267) (XS.icmpNo X21.here hx rfl (hb hby at_269) rfl (teq (msg_sg hsg : ((msgL p1).getD 12 0) = (45 : Int32))).2 (XS.iconst X21.here hx rfl (hb hby at_272) (XS.goto X21.here hx rfl (pc0 := 273) (pc' := 277) rfl (hb hby at_273) (by decide) (by decide) (XS.istore X21.here hx rfl (hb hby at_277) rfl (l' := #[.val (.int p1), .val (.ref x_1), .val (.ref y_1), .val (.long (p1.toInt64)), .second, .val (.int (1 : Int32)), .val (.long (-(p1.toInt64))), .second, .val (.int (Int32.ofNat (SBG.digits (absN p1)))), .val (.int (1 : Int32)), .val (.int (((13 : Int32) + (Int32.ofNat (SBG.digits (absN p1)))) + (6 : Int32))), .val (.ref la7), .val (.ref la8), .val (.int (1 : Int32)), .val (.int (1 : Int32)), .unset, .unset, .unset, .unset]) rfl (XS.bipush X21.here hx rfl (hb hby at_279) (XS.iload X21.here hx rfl (hb hby at_281) rfl k)))))))) ?_
    refine GlW.pre (B := T21.setTop (mkF m 284 #[.val (.int p1), .val (.ref x_1), .val (.ref y_1), .val (.long (p1.toInt64)), .second, .val (.int (1 : Int32)), .val (.long (-(p1.toInt64))), .second, .val (.int (Int32.ofNat (SBG.digits (absN p1)))), .val (.int (1 : Int32)), .val (.int (((13 : Int32) + (Int32.ofNat (SBG.digits (absN p1)))) + (6 : Int32))), .val (.ref la7), .val (.ref la8), .val (.int (1 : Int32)), .val (.int (1 : Int32)), .unset, .unset, .unset, .unset] [(.int ((12 : Int32) + (1 : Int32)))])) (fun _ k => XS.iadd X21.here hx rfl (hb hby at_283) rfl k) ?_
    rw [show ((12 : Int32) + (1 : Int32)) = (13 : Int32) from by decide]
    refine GlW.pre (B := T21.setTop (mkF m 294 #[.val (.int p1), .val (.ref x_1), .val (.ref y_1), .val (.long (p1.toInt64)), .second, .val (.int (1 : Int32)), .val (.long (-(p1.toInt64))), .second, .val (.int (Int32.ofNat (SBG.digits (absN p1)))), .val (.int (1 : Int32)), .val (.int (((13 : Int32) + (Int32.ofNat (SBG.digits (absN p1)))) + (6 : Int32))), .val (.ref la7), .val (.ref la8), .val (.int (1 : Int32)), .val (.int (1 : Int32)), .val (.int (13 : Int32)), .unset, .unset, .unset] [(.int (0 : Int32)), (.long (-(p1.toInt64))), (.int (Int32.ofNat (SBG.digits (absN p1)))), (.int (13 : Int32)), (.ref y_1)])) (fun _ k => XS.istore X21.here hx rfl (hb hby at_284) rfl (l' := #[.val (.int p1), .val (.ref x_1), .val (.ref y_1), .val (.long (p1.toInt64)), .second, .val (.int (1 : Int32)), .val (.long (-(p1.toInt64))), .second, .val (.int (Int32.ofNat (SBG.digits (absN p1)))), .val (.int (1 : Int32)), .val (.int (((13 : Int32) + (Int32.ofNat (SBG.digits (absN p1)))) + (6 : Int32))), .val (.ref la7), .val (.ref la8), .val (.int (1 : Int32)), .val (.int (1 : Int32)), .val (.int (13 : Int32)), .unset, .unset, .unset]) rfl (XS.aloadN X21.here hx rfl (hb hby at_286) rfl rfl (XS.iload X21.here hx rfl (hb hby at_287) rfl (XS.iload X21.here hx rfl (hb hby at_289) rfl (XS.lload X21.here hx rfl (hb hby at_291) rfl (XS.iconst X21.here hx rfl (hb hby at_293) k)))))) ?_
    obtain ⟨rv22, _, ⟨T22, L22, k22, n22⟩, -, X22, ⟨Lc22, hQ22, l22, y22, z22⟩, st22⟩ := Jvm.LawKit.callS X21 hx (y := (⟨"com/example/bourse/bourse/exchange/BoundedFileTooLongPinLaw", "d", "(Ljava/lang/String;IIJI)Z"⟩ : MethodName)) ho8 (mvT hZ8 (wq hw 265 rfl)) (mvT hZ8 (wq hw 266 rfl)) (mvT hZ8 (wq hw 234 rfl)) (mvT hZ8 (wq hw 267 rfl)) (by decide) (backOf (W := 0) (lawD l Z a0 hw [] y_1 (13 : Int32) (Int32.ofNat (SBG.digits (absN p1))) (-(p1.toInt64)) (0 : Int32) 0 13 (dgN p1) (absN p1) ty_1 ky_1 (msgL p1) G1 G3 h8 n0 Z0 sv_1 (by decide) rfl (own_an hsg) (by decide) (dg_bnd p1).2 (by decide) (by decide) (abs_le p1) (msg_dl hoS) (msg_dig hoS) O2 P5 O4 rG3 Od) hZ8 (wq hw 267 rfl) (wq hw 234 rfl) (by decide) (by decide)) (g := (mkF m 294 #[.val (.int p1), .val (.ref x_1), .val (.ref y_1), .val (.long (p1.toInt64)), .second, .val (.int (1 : Int32)), .val (.long (-(p1.toInt64))), .second, .val (.int (Int32.ofNat (SBG.digits (absN p1)))), .val (.int (1 : Int32)), .val (.int (((13 : Int32) + (Int32.ofNat (SBG.digits (absN p1)))) + (6 : Int32))), .val (.ref la7), .val (.ref la8), .val (.int (1 : Int32)), .val (.int (1 : Int32)), .val (.int (13 : Int32)), .unset, .unset, .unset] [(.int (0 : Int32)), (.long (-(p1.toInt64))), (.int (Int32.ofNat (SBG.digits (absN p1)))), (.int (13 : Int32)), (.ref y_1)])) rfl (by rw [hml]; rfl) (argsL := [(.ref y_1), (.int (13 : Int32)), (.int (Int32.ofNat (SBG.digits (absN p1)))), (.long (-(p1.toInt64))), (.int (0 : Int32))]) (rest := []) (lenOf pd_31 rfl) rfl (by show 2 * 0 + _ ≤ _; exact Nat.le_of_eq rfl) (hb hby at_294) (fun _ _ => ⟨rfl, e21, (by decide : 15 + 0 ≤ _), (by decide : 3040 + 0 ≤ _)⟩)
    dsimp only [Pt.U, Pt.locs, Pt.cells, Pt.slots] at X22 l22 y22 z22 st22 hQ22
    have X22 := own_reb X22 l22 y22 z22
    obtain ⟨rfl, N22q, e22⟩ := hQ22
    have N22 := Fr.app N21 N22q
    refine GlW.pre (B := T22.setTop (mkF m 308 #[.val (.int p1), .val (.ref x_1), .val (.ref y_1), .val (.long (p1.toInt64)), .second, .val (.int (1 : Int32)), .val (.long (-(p1.toInt64))), .second, .val (.int (Int32.ofNat (SBG.digits (absN p1)))), .val (.int (1 : Int32)), .val (.int (((13 : Int32) + (Int32.ofNat (SBG.digits (absN p1)))) + (6 : Int32))), .val (.ref la7), .val (.ref la8), .val (.int (1 : Int32)), .val (.int (1 : Int32)), .val (.int (13 : Int32)), .unset, .unset, .unset] [(.int (1 : Int32)), (.long (-(p1.toInt64))), (.int (Int32.ofNat (SBG.digits (absN p1)))), (.int (13 : Int32)), (.ref y_1)])) (fun _ k => st22 _ (XS.ifNo X22.here hx rfl (hb hby at_297) rfl ((if0 _ _).trans (feq (by decide : ¬ ((1 : Int32) = (0 : Int32)))).1) (XS.aloadN X22.here hx rfl (hb hby at_300) rfl rfl (XS.iload X22.here hx rfl (hb hby at_301) rfl (XS.iload X22.here hx rfl (hb hby at_303) rfl (XS.lload X22.here hx rfl (hb hby at_305) rfl (XS.iconst X22.here hx rfl (hb hby at_307) k))))))) ?_
    obtain ⟨rv23, _, ⟨T23, L23, k23, n23⟩, -, X23, ⟨Lc23, hQ23, l23, y23, z23⟩, st23⟩ := Jvm.LawKit.callS X22 hx (y := (⟨"com/example/bourse/bourse/exchange/BoundedFileTooLongPinLaw", "d", "(Ljava/lang/String;IIJI)Z"⟩ : MethodName)) ho8 (mvT hZ8 (wq hw 265 rfl)) (mvT hZ8 (wq hw 266 rfl)) (mvT hZ8 (wq hw 234 rfl)) (mvT hZ8 (wq hw 267 rfl)) (by decide) (backOf (W := 0) (lawD l Z a0 hw [] y_1 (13 : Int32) (Int32.ofNat (SBG.digits (absN p1))) (-(p1.toInt64)) (1 : Int32) 1 13 (dgN p1) (absN p1) ty_1 ky_1 (msgL p1) G1 G3 h8 n0 Z0 sv_1 (by decide) rfl (own_an hsg) (by decide) (dg_bnd p1).2 (by decide) (by decide) (abs_le p1) (msg_dl hoS) (msg_dig hoS) O2 P5 O4 rG3 Od) hZ8 (wq hw 267 rfl) (wq hw 234 rfl) (by decide) (by decide)) (g := (mkF m 308 #[.val (.int p1), .val (.ref x_1), .val (.ref y_1), .val (.long (p1.toInt64)), .second, .val (.int (1 : Int32)), .val (.long (-(p1.toInt64))), .second, .val (.int (Int32.ofNat (SBG.digits (absN p1)))), .val (.int (1 : Int32)), .val (.int (((13 : Int32) + (Int32.ofNat (SBG.digits (absN p1)))) + (6 : Int32))), .val (.ref la7), .val (.ref la8), .val (.int (1 : Int32)), .val (.int (1 : Int32)), .val (.int (13 : Int32)), .unset, .unset, .unset] [(.int (1 : Int32)), (.long (-(p1.toInt64))), (.int (Int32.ofNat (SBG.digits (absN p1)))), (.int (13 : Int32)), (.ref y_1)])) rfl (by rw [hml]; rfl) (argsL := [(.ref y_1), (.int (13 : Int32)), (.int (Int32.ofNat (SBG.digits (absN p1)))), (.long (-(p1.toInt64))), (.int (1 : Int32))]) (rest := []) (lenOf pd_31 rfl) rfl (by show 2 * 0 + _ ≤ _; exact Nat.le_of_eq rfl) (hb hby at_308) (fun _ _ => ⟨rfl, e22, (by decide : 15 + 0 ≤ _), (by decide : 3040 + 0 ≤ _)⟩)
    dsimp only [Pt.U, Pt.locs, Pt.cells, Pt.slots] at X23 l23 y23 z23 st23 hQ23
    have X23 := own_reb X23 l23 y23 z23
    obtain ⟨rfl, N23q, e23⟩ := hQ23
    have N23 := Fr.app N22 N23q
    refine GlW.pre (B := T23.setTop (mkF m 322 #[.val (.int p1), .val (.ref x_1), .val (.ref y_1), .val (.long (p1.toInt64)), .second, .val (.int (1 : Int32)), .val (.long (-(p1.toInt64))), .second, .val (.int (Int32.ofNat (SBG.digits (absN p1)))), .val (.int (1 : Int32)), .val (.int (((13 : Int32) + (Int32.ofNat (SBG.digits (absN p1)))) + (6 : Int32))), .val (.ref la7), .val (.ref la8), .val (.int (1 : Int32)), .val (.int (1 : Int32)), .val (.int (13 : Int32)), .unset, .unset, .unset] [(.int (2 : Int32)), (.long (-(p1.toInt64))), (.int (Int32.ofNat (SBG.digits (absN p1)))), (.int (13 : Int32)), (.ref y_1)])) (fun _ k => st23 _ (XS.ifNo X23.here hx rfl (hb hby at_311) rfl ((if0 _ _).trans (feq (by decide : ¬ ((1 : Int32) = (0 : Int32)))).1) (XS.aloadN X23.here hx rfl (hb hby at_314) rfl rfl (XS.iload X23.here hx rfl (hb hby at_315) rfl (XS.iload X23.here hx rfl (hb hby at_317) rfl (XS.lload X23.here hx rfl (hb hby at_319) rfl (XS.iconst X23.here hx rfl (hb hby at_321) k))))))) ?_
    obtain ⟨rv24, _, ⟨T24, L24, k24, n24⟩, -, X24, ⟨Lc24, hQ24, l24, y24, z24⟩, st24⟩ := Jvm.LawKit.callS X23 hx (y := (⟨"com/example/bourse/bourse/exchange/BoundedFileTooLongPinLaw", "d", "(Ljava/lang/String;IIJI)Z"⟩ : MethodName)) ho8 (mvT hZ8 (wq hw 265 rfl)) (mvT hZ8 (wq hw 266 rfl)) (mvT hZ8 (wq hw 234 rfl)) (mvT hZ8 (wq hw 267 rfl)) (by decide) (backOf (W := 0) (lawD l Z a0 hw [] y_1 (13 : Int32) (Int32.ofNat (SBG.digits (absN p1))) (-(p1.toInt64)) (2 : Int32) 2 13 (dgN p1) (absN p1) ty_1 ky_1 (msgL p1) G1 G3 h8 n0 Z0 sv_1 (by decide) rfl (own_an hsg) (by decide) (dg_bnd p1).2 (by decide) (by decide) (abs_le p1) (msg_dl hoS) (msg_dig hoS) O2 P5 O4 rG3 Od) hZ8 (wq hw 267 rfl) (wq hw 234 rfl) (by decide) (by decide)) (g := (mkF m 322 #[.val (.int p1), .val (.ref x_1), .val (.ref y_1), .val (.long (p1.toInt64)), .second, .val (.int (1 : Int32)), .val (.long (-(p1.toInt64))), .second, .val (.int (Int32.ofNat (SBG.digits (absN p1)))), .val (.int (1 : Int32)), .val (.int (((13 : Int32) + (Int32.ofNat (SBG.digits (absN p1)))) + (6 : Int32))), .val (.ref la7), .val (.ref la8), .val (.int (1 : Int32)), .val (.int (1 : Int32)), .val (.int (13 : Int32)), .unset, .unset, .unset] [(.int (2 : Int32)), (.long (-(p1.toInt64))), (.int (Int32.ofNat (SBG.digits (absN p1)))), (.int (13 : Int32)), (.ref y_1)])) rfl (by rw [hml]; rfl) (argsL := [(.ref y_1), (.int (13 : Int32)), (.int (Int32.ofNat (SBG.digits (absN p1)))), (.long (-(p1.toInt64))), (.int (2 : Int32))]) (rest := []) (lenOf pd_31 rfl) rfl (by show 2 * 0 + _ ≤ _; exact Nat.le_of_eq rfl) (hb hby at_322) (fun _ _ => ⟨rfl, e23, (by decide : 15 + 0 ≤ _), (by decide : 3040 + 0 ≤ _)⟩)
    dsimp only [Pt.U, Pt.locs, Pt.cells, Pt.slots] at X24 l24 y24 z24 st24 hQ24
    have X24 := own_reb X24 l24 y24 z24
    obtain ⟨rfl, N24q, e24⟩ := hQ24
    have N24 := Fr.app N23 N24q
    refine GlW.pre (B := T24.setTop (mkF m 336 #[.val (.int p1), .val (.ref x_1), .val (.ref y_1), .val (.long (p1.toInt64)), .second, .val (.int (1 : Int32)), .val (.long (-(p1.toInt64))), .second, .val (.int (Int32.ofNat (SBG.digits (absN p1)))), .val (.int (1 : Int32)), .val (.int (((13 : Int32) + (Int32.ofNat (SBG.digits (absN p1)))) + (6 : Int32))), .val (.ref la7), .val (.ref la8), .val (.int (1 : Int32)), .val (.int (1 : Int32)), .val (.int (13 : Int32)), .unset, .unset, .unset] [(.int (3 : Int32)), (.long (-(p1.toInt64))), (.int (Int32.ofNat (SBG.digits (absN p1)))), (.int (13 : Int32)), (.ref y_1)])) (fun _ k => st24 _ (XS.ifNo X24.here hx rfl (hb hby at_325) rfl ((if0 _ _).trans (feq (by decide : ¬ ((1 : Int32) = (0 : Int32)))).1) (XS.aloadN X24.here hx rfl (hb hby at_328) rfl rfl (XS.iload X24.here hx rfl (hb hby at_329) rfl (XS.iload X24.here hx rfl (hb hby at_331) rfl (XS.lload X24.here hx rfl (hb hby at_333) rfl (XS.iconst X24.here hx rfl (hb hby at_335) k))))))) ?_
    obtain ⟨rv25, _, ⟨T25, L25, k25, n25⟩, -, X25, ⟨Lc25, hQ25, l25, y25, z25⟩, st25⟩ := Jvm.LawKit.callS X24 hx (y := (⟨"com/example/bourse/bourse/exchange/BoundedFileTooLongPinLaw", "d", "(Ljava/lang/String;IIJI)Z"⟩ : MethodName)) ho8 (mvT hZ8 (wq hw 265 rfl)) (mvT hZ8 (wq hw 266 rfl)) (mvT hZ8 (wq hw 234 rfl)) (mvT hZ8 (wq hw 267 rfl)) (by decide) (backOf (W := 0) (lawD l Z a0 hw [] y_1 (13 : Int32) (Int32.ofNat (SBG.digits (absN p1))) (-(p1.toInt64)) (3 : Int32) 3 13 (dgN p1) (absN p1) ty_1 ky_1 (msgL p1) G1 G3 h8 n0 Z0 sv_1 (by decide) rfl (own_an hsg) (by decide) (dg_bnd p1).2 (by decide) (by decide) (abs_le p1) (msg_dl hoS) (msg_dig hoS) O2 P5 O4 rG3 Od) hZ8 (wq hw 267 rfl) (wq hw 234 rfl) (by decide) (by decide)) (g := (mkF m 336 #[.val (.int p1), .val (.ref x_1), .val (.ref y_1), .val (.long (p1.toInt64)), .second, .val (.int (1 : Int32)), .val (.long (-(p1.toInt64))), .second, .val (.int (Int32.ofNat (SBG.digits (absN p1)))), .val (.int (1 : Int32)), .val (.int (((13 : Int32) + (Int32.ofNat (SBG.digits (absN p1)))) + (6 : Int32))), .val (.ref la7), .val (.ref la8), .val (.int (1 : Int32)), .val (.int (1 : Int32)), .val (.int (13 : Int32)), .unset, .unset, .unset] [(.int (3 : Int32)), (.long (-(p1.toInt64))), (.int (Int32.ofNat (SBG.digits (absN p1)))), (.int (13 : Int32)), (.ref y_1)])) rfl (by rw [hml]; rfl) (argsL := [(.ref y_1), (.int (13 : Int32)), (.int (Int32.ofNat (SBG.digits (absN p1)))), (.long (-(p1.toInt64))), (.int (3 : Int32))]) (rest := []) (lenOf pd_31 rfl) rfl (by show 2 * 0 + _ ≤ _; exact Nat.le_of_eq rfl) (hb hby at_336) (fun _ _ => ⟨rfl, e24, (by decide : 15 + 0 ≤ _), (by decide : 3040 + 0 ≤ _)⟩)
    dsimp only [Pt.U, Pt.locs, Pt.cells, Pt.slots] at X25 l25 y25 z25 st25 hQ25
    have X25 := own_reb X25 l25 y25 z25
    obtain ⟨rfl, N25q, e25⟩ := hQ25
    have N25 := Fr.app N24 N25q
    refine GlW.pre (B := T25.setTop (mkF m 350 #[.val (.int p1), .val (.ref x_1), .val (.ref y_1), .val (.long (p1.toInt64)), .second, .val (.int (1 : Int32)), .val (.long (-(p1.toInt64))), .second, .val (.int (Int32.ofNat (SBG.digits (absN p1)))), .val (.int (1 : Int32)), .val (.int (((13 : Int32) + (Int32.ofNat (SBG.digits (absN p1)))) + (6 : Int32))), .val (.ref la7), .val (.ref la8), .val (.int (1 : Int32)), .val (.int (1 : Int32)), .val (.int (13 : Int32)), .unset, .unset, .unset] [(.int (4 : Int32)), (.long (-(p1.toInt64))), (.int (Int32.ofNat (SBG.digits (absN p1)))), (.int (13 : Int32)), (.ref y_1)])) (fun _ k => st25 _ (XS.ifNo X25.here hx rfl (hb hby at_339) rfl ((if0 _ _).trans (feq (by decide : ¬ ((1 : Int32) = (0 : Int32)))).1) (XS.aloadN X25.here hx rfl (hb hby at_342) rfl rfl (XS.iload X25.here hx rfl (hb hby at_343) rfl (XS.iload X25.here hx rfl (hb hby at_345) rfl (XS.lload X25.here hx rfl (hb hby at_347) rfl (XS.iconst X25.here hx rfl (hb hby at_349) k))))))) ?_
    obtain ⟨rv26, _, ⟨T26, L26, k26, n26⟩, -, X26, ⟨Lc26, hQ26, l26, y26, z26⟩, st26⟩ := Jvm.LawKit.callS X25 hx (y := (⟨"com/example/bourse/bourse/exchange/BoundedFileTooLongPinLaw", "d", "(Ljava/lang/String;IIJI)Z"⟩ : MethodName)) ho8 (mvT hZ8 (wq hw 265 rfl)) (mvT hZ8 (wq hw 266 rfl)) (mvT hZ8 (wq hw 234 rfl)) (mvT hZ8 (wq hw 267 rfl)) (by decide) (backOf (W := 0) (lawD l Z a0 hw [] y_1 (13 : Int32) (Int32.ofNat (SBG.digits (absN p1))) (-(p1.toInt64)) (4 : Int32) 4 13 (dgN p1) (absN p1) ty_1 ky_1 (msgL p1) G1 G3 h8 n0 Z0 sv_1 (by decide) rfl (own_an hsg) (by decide) (dg_bnd p1).2 (by decide) (by decide) (abs_le p1) (msg_dl hoS) (msg_dig hoS) O2 P5 O4 rG3 Od) hZ8 (wq hw 267 rfl) (wq hw 234 rfl) (by decide) (by decide)) (g := (mkF m 350 #[.val (.int p1), .val (.ref x_1), .val (.ref y_1), .val (.long (p1.toInt64)), .second, .val (.int (1 : Int32)), .val (.long (-(p1.toInt64))), .second, .val (.int (Int32.ofNat (SBG.digits (absN p1)))), .val (.int (1 : Int32)), .val (.int (((13 : Int32) + (Int32.ofNat (SBG.digits (absN p1)))) + (6 : Int32))), .val (.ref la7), .val (.ref la8), .val (.int (1 : Int32)), .val (.int (1 : Int32)), .val (.int (13 : Int32)), .unset, .unset, .unset] [(.int (4 : Int32)), (.long (-(p1.toInt64))), (.int (Int32.ofNat (SBG.digits (absN p1)))), (.int (13 : Int32)), (.ref y_1)])) rfl (by rw [hml]; rfl) (argsL := [(.ref y_1), (.int (13 : Int32)), (.int (Int32.ofNat (SBG.digits (absN p1)))), (.long (-(p1.toInt64))), (.int (4 : Int32))]) (rest := []) (lenOf pd_31 rfl) rfl (by show 2 * 0 + _ ≤ _; exact Nat.le_of_eq rfl) (hb hby at_350) (fun _ _ => ⟨rfl, e25, (by decide : 15 + 0 ≤ _), (by decide : 3040 + 0 ≤ _)⟩)
    dsimp only [Pt.U, Pt.locs, Pt.cells, Pt.slots] at X26 l26 y26 z26 st26 hQ26
    have X26 := own_reb X26 l26 y26 z26
    obtain ⟨rfl, N26q, e26⟩ := hQ26
    have N26 := Fr.app N25 N26q
    refine GlW.pre (B := T26.setTop (mkF m 364 #[.val (.int p1), .val (.ref x_1), .val (.ref y_1), .val (.long (p1.toInt64)), .second, .val (.int (1 : Int32)), .val (.long (-(p1.toInt64))), .second, .val (.int (Int32.ofNat (SBG.digits (absN p1)))), .val (.int (1 : Int32)), .val (.int (((13 : Int32) + (Int32.ofNat (SBG.digits (absN p1)))) + (6 : Int32))), .val (.ref la7), .val (.ref la8), .val (.int (1 : Int32)), .val (.int (1 : Int32)), .val (.int (13 : Int32)), .unset, .unset, .unset] [(.int (5 : Int32)), (.long (-(p1.toInt64))), (.int (Int32.ofNat (SBG.digits (absN p1)))), (.int (13 : Int32)), (.ref y_1)])) (fun _ k => st26 _ (XS.ifNo X26.here hx rfl (hb hby at_353) rfl ((if0 _ _).trans (feq (by decide : ¬ ((1 : Int32) = (0 : Int32)))).1) (XS.aloadN X26.here hx rfl (hb hby at_356) rfl rfl (XS.iload X26.here hx rfl (hb hby at_357) rfl (XS.iload X26.here hx rfl (hb hby at_359) rfl (XS.lload X26.here hx rfl (hb hby at_361) rfl (XS.iconst X26.here hx rfl (hb hby at_363) k))))))) ?_
    obtain ⟨rv27, _, ⟨T27, L27, k27, n27⟩, -, X27, ⟨Lc27, hQ27, l27, y27, z27⟩, st27⟩ := Jvm.LawKit.callS X26 hx (y := (⟨"com/example/bourse/bourse/exchange/BoundedFileTooLongPinLaw", "d", "(Ljava/lang/String;IIJI)Z"⟩ : MethodName)) ho8 (mvT hZ8 (wq hw 265 rfl)) (mvT hZ8 (wq hw 266 rfl)) (mvT hZ8 (wq hw 234 rfl)) (mvT hZ8 (wq hw 267 rfl)) (by decide) (backOf (W := 0) (lawD l Z a0 hw [] y_1 (13 : Int32) (Int32.ofNat (SBG.digits (absN p1))) (-(p1.toInt64)) (5 : Int32) 5 13 (dgN p1) (absN p1) ty_1 ky_1 (msgL p1) G1 G3 h8 n0 Z0 sv_1 (by decide) rfl (own_an hsg) (by decide) (dg_bnd p1).2 (by decide) (by decide) (abs_le p1) (msg_dl hoS) (msg_dig hoS) O2 P5 O4 rG3 Od) hZ8 (wq hw 267 rfl) (wq hw 234 rfl) (by decide) (by decide)) (g := (mkF m 364 #[.val (.int p1), .val (.ref x_1), .val (.ref y_1), .val (.long (p1.toInt64)), .second, .val (.int (1 : Int32)), .val (.long (-(p1.toInt64))), .second, .val (.int (Int32.ofNat (SBG.digits (absN p1)))), .val (.int (1 : Int32)), .val (.int (((13 : Int32) + (Int32.ofNat (SBG.digits (absN p1)))) + (6 : Int32))), .val (.ref la7), .val (.ref la8), .val (.int (1 : Int32)), .val (.int (1 : Int32)), .val (.int (13 : Int32)), .unset, .unset, .unset] [(.int (5 : Int32)), (.long (-(p1.toInt64))), (.int (Int32.ofNat (SBG.digits (absN p1)))), (.int (13 : Int32)), (.ref y_1)])) rfl (by rw [hml]; rfl) (argsL := [(.ref y_1), (.int (13 : Int32)), (.int (Int32.ofNat (SBG.digits (absN p1)))), (.long (-(p1.toInt64))), (.int (5 : Int32))]) (rest := []) (lenOf pd_31 rfl) rfl (by show 2 * 0 + _ ≤ _; exact Nat.le_of_eq rfl) (hb hby at_364) (fun _ _ => ⟨rfl, e26, (by decide : 15 + 0 ≤ _), (by decide : 3040 + 0 ≤ _)⟩)
    dsimp only [Pt.U, Pt.locs, Pt.cells, Pt.slots] at X27 l27 y27 z27 st27 hQ27
    have X27 := own_reb X27 l27 y27 z27
    obtain ⟨rfl, N27q, e27⟩ := hQ27
    have N27 := Fr.app N26 N27q
    refine GlW.pre (B := T27.setTop (mkF m 379 #[.val (.int p1), .val (.ref x_1), .val (.ref y_1), .val (.long (p1.toInt64)), .second, .val (.int (1 : Int32)), .val (.long (-(p1.toInt64))), .second, .val (.int (Int32.ofNat (SBG.digits (absN p1)))), .val (.int (1 : Int32)), .val (.int (((13 : Int32) + (Int32.ofNat (SBG.digits (absN p1)))) + (6 : Int32))), .val (.ref la7), .val (.ref la8), .val (.int (1 : Int32)), .val (.int (1 : Int32)), .val (.int (13 : Int32)), .unset, .unset, .unset] [(.int (6 : Int32)), (.long (-(p1.toInt64))), (.int (Int32.ofNat (SBG.digits (absN p1)))), (.int (13 : Int32)), (.ref y_1)])) (fun _ k => st27 _ (XS.ifNo X27.here hx rfl (hb hby at_367) rfl ((if0 _ _).trans (feq (by decide : ¬ ((1 : Int32) = (0 : Int32)))).1) (XS.aloadN X27.here hx rfl (hb hby at_370) rfl rfl (XS.iload X27.here hx rfl (hb hby at_371) rfl (XS.iload X27.here hx rfl (hb hby at_373) rfl (XS.lload X27.here hx rfl (hb hby at_375) rfl (XS.bipush X27.here hx rfl (hb hby at_377) k))))))) ?_
    obtain ⟨rv28, _, ⟨T28, L28, k28, n28⟩, -, X28, ⟨Lc28, hQ28, l28, y28, z28⟩, st28⟩ := Jvm.LawKit.callS X27 hx (y := (⟨"com/example/bourse/bourse/exchange/BoundedFileTooLongPinLaw", "d", "(Ljava/lang/String;IIJI)Z"⟩ : MethodName)) ho8 (mvT hZ8 (wq hw 265 rfl)) (mvT hZ8 (wq hw 266 rfl)) (mvT hZ8 (wq hw 234 rfl)) (mvT hZ8 (wq hw 267 rfl)) (by decide) (backOf (W := 0) (lawD l Z a0 hw [] y_1 (13 : Int32) (Int32.ofNat (SBG.digits (absN p1))) (-(p1.toInt64)) (6 : Int32) 6 13 (dgN p1) (absN p1) ty_1 ky_1 (msgL p1) G1 G3 h8 n0 Z0 sv_1 (by decide) rfl (own_an hsg) (by decide) (dg_bnd p1).2 (by decide) (by decide) (abs_le p1) (msg_dl hoS) (msg_dig hoS) O2 P5 O4 rG3 Od) hZ8 (wq hw 267 rfl) (wq hw 234 rfl) (by decide) (by decide)) (g := (mkF m 379 #[.val (.int p1), .val (.ref x_1), .val (.ref y_1), .val (.long (p1.toInt64)), .second, .val (.int (1 : Int32)), .val (.long (-(p1.toInt64))), .second, .val (.int (Int32.ofNat (SBG.digits (absN p1)))), .val (.int (1 : Int32)), .val (.int (((13 : Int32) + (Int32.ofNat (SBG.digits (absN p1)))) + (6 : Int32))), .val (.ref la7), .val (.ref la8), .val (.int (1 : Int32)), .val (.int (1 : Int32)), .val (.int (13 : Int32)), .unset, .unset, .unset] [(.int (6 : Int32)), (.long (-(p1.toInt64))), (.int (Int32.ofNat (SBG.digits (absN p1)))), (.int (13 : Int32)), (.ref y_1)])) rfl (by rw [hml]; rfl) (argsL := [(.ref y_1), (.int (13 : Int32)), (.int (Int32.ofNat (SBG.digits (absN p1)))), (.long (-(p1.toInt64))), (.int (6 : Int32))]) (rest := []) (lenOf pd_31 rfl) rfl (by show 2 * 0 + _ ≤ _; exact Nat.le_of_eq rfl) (hb hby at_379) (fun _ _ => ⟨rfl, e27, (by decide : 15 + 0 ≤ _), (by decide : 3040 + 0 ≤ _)⟩)
    dsimp only [Pt.U, Pt.locs, Pt.cells, Pt.slots] at X28 l28 y28 z28 st28 hQ28
    have X28 := own_reb X28 l28 y28 z28
    obtain ⟨rfl, N28q, e28⟩ := hQ28
    have N28 := Fr.app N27 N28q
    refine GlW.pre (B := T28.setTop (mkF m 394 #[.val (.int p1), .val (.ref x_1), .val (.ref y_1), .val (.long (p1.toInt64)), .second, .val (.int (1 : Int32)), .val (.long (-(p1.toInt64))), .second, .val (.int (Int32.ofNat (SBG.digits (absN p1)))), .val (.int (1 : Int32)), .val (.int (((13 : Int32) + (Int32.ofNat (SBG.digits (absN p1)))) + (6 : Int32))), .val (.ref la7), .val (.ref la8), .val (.int (1 : Int32)), .val (.int (1 : Int32)), .val (.int (13 : Int32)), .unset, .unset, .unset] [(.int (7 : Int32)), (.long (-(p1.toInt64))), (.int (Int32.ofNat (SBG.digits (absN p1)))), (.int (13 : Int32)), (.ref y_1)])) (fun _ k => st28 _ (XS.ifNo X28.here hx rfl (hb hby at_382) rfl ((if0 _ _).trans (feq (by decide : ¬ ((1 : Int32) = (0 : Int32)))).1) (XS.aloadN X28.here hx rfl (hb hby at_385) rfl rfl (XS.iload X28.here hx rfl (hb hby at_386) rfl (XS.iload X28.here hx rfl (hb hby at_388) rfl (XS.lload X28.here hx rfl (hb hby at_390) rfl (XS.bipush X28.here hx rfl (hb hby at_392) k))))))) ?_
    obtain ⟨rv29, _, ⟨T29, L29, k29, n29⟩, -, X29, ⟨Lc29, hQ29, l29, y29, z29⟩, st29⟩ := Jvm.LawKit.callS X28 hx (y := (⟨"com/example/bourse/bourse/exchange/BoundedFileTooLongPinLaw", "d", "(Ljava/lang/String;IIJI)Z"⟩ : MethodName)) ho8 (mvT hZ8 (wq hw 265 rfl)) (mvT hZ8 (wq hw 266 rfl)) (mvT hZ8 (wq hw 234 rfl)) (mvT hZ8 (wq hw 267 rfl)) (by decide) (backOf (W := 0) (lawD l Z a0 hw [] y_1 (13 : Int32) (Int32.ofNat (SBG.digits (absN p1))) (-(p1.toInt64)) (7 : Int32) 7 13 (dgN p1) (absN p1) ty_1 ky_1 (msgL p1) G1 G3 h8 n0 Z0 sv_1 (by decide) rfl (own_an hsg) (by decide) (dg_bnd p1).2 (by decide) (by decide) (abs_le p1) (msg_dl hoS) (msg_dig hoS) O2 P5 O4 rG3 Od) hZ8 (wq hw 267 rfl) (wq hw 234 rfl) (by decide) (by decide)) (g := (mkF m 394 #[.val (.int p1), .val (.ref x_1), .val (.ref y_1), .val (.long (p1.toInt64)), .second, .val (.int (1 : Int32)), .val (.long (-(p1.toInt64))), .second, .val (.int (Int32.ofNat (SBG.digits (absN p1)))), .val (.int (1 : Int32)), .val (.int (((13 : Int32) + (Int32.ofNat (SBG.digits (absN p1)))) + (6 : Int32))), .val (.ref la7), .val (.ref la8), .val (.int (1 : Int32)), .val (.int (1 : Int32)), .val (.int (13 : Int32)), .unset, .unset, .unset] [(.int (7 : Int32)), (.long (-(p1.toInt64))), (.int (Int32.ofNat (SBG.digits (absN p1)))), (.int (13 : Int32)), (.ref y_1)])) rfl (by rw [hml]; rfl) (argsL := [(.ref y_1), (.int (13 : Int32)), (.int (Int32.ofNat (SBG.digits (absN p1)))), (.long (-(p1.toInt64))), (.int (7 : Int32))]) (rest := []) (lenOf pd_31 rfl) rfl (by show 2 * 0 + _ ≤ _; exact Nat.le_of_eq rfl) (hb hby at_394) (fun _ _ => ⟨rfl, e28, (by decide : 15 + 0 ≤ _), (by decide : 3040 + 0 ≤ _)⟩)
    dsimp only [Pt.U, Pt.locs, Pt.cells, Pt.slots] at X29 l29 y29 z29 st29 hQ29
    have X29 := own_reb X29 l29 y29 z29
    obtain ⟨rfl, N29q, e29⟩ := hQ29
    have N29 := Fr.app N28 N29q
    refine GlW.pre (B := T29.setTop (mkF m 409 #[.val (.int p1), .val (.ref x_1), .val (.ref y_1), .val (.long (p1.toInt64)), .second, .val (.int (1 : Int32)), .val (.long (-(p1.toInt64))), .second, .val (.int (Int32.ofNat (SBG.digits (absN p1)))), .val (.int (1 : Int32)), .val (.int (((13 : Int32) + (Int32.ofNat (SBG.digits (absN p1)))) + (6 : Int32))), .val (.ref la7), .val (.ref la8), .val (.int (1 : Int32)), .val (.int (1 : Int32)), .val (.int (13 : Int32)), .unset, .unset, .unset] [(.int (8 : Int32)), (.long (-(p1.toInt64))), (.int (Int32.ofNat (SBG.digits (absN p1)))), (.int (13 : Int32)), (.ref y_1)])) (fun _ k => st29 _ (XS.ifNo X29.here hx rfl (hb hby at_397) rfl ((if0 _ _).trans (feq (by decide : ¬ ((1 : Int32) = (0 : Int32)))).1) (XS.aloadN X29.here hx rfl (hb hby at_400) rfl rfl (XS.iload X29.here hx rfl (hb hby at_401) rfl (XS.iload X29.here hx rfl (hb hby at_403) rfl (XS.lload X29.here hx rfl (hb hby at_405) rfl (XS.bipush X29.here hx rfl (hb hby at_407) k))))))) ?_
    obtain ⟨rv30, _, ⟨T30, L30, k30, n30⟩, -, X30, ⟨Lc30, hQ30, l30, y30, z30⟩, st30⟩ := Jvm.LawKit.callS X29 hx (y := (⟨"com/example/bourse/bourse/exchange/BoundedFileTooLongPinLaw", "d", "(Ljava/lang/String;IIJI)Z"⟩ : MethodName)) ho8 (mvT hZ8 (wq hw 265 rfl)) (mvT hZ8 (wq hw 266 rfl)) (mvT hZ8 (wq hw 234 rfl)) (mvT hZ8 (wq hw 267 rfl)) (by decide) (backOf (W := 0) (lawD l Z a0 hw [] y_1 (13 : Int32) (Int32.ofNat (SBG.digits (absN p1))) (-(p1.toInt64)) (8 : Int32) 8 13 (dgN p1) (absN p1) ty_1 ky_1 (msgL p1) G1 G3 h8 n0 Z0 sv_1 (by decide) rfl (own_an hsg) (by decide) (dg_bnd p1).2 (by decide) (by decide) (abs_le p1) (msg_dl hoS) (msg_dig hoS) O2 P5 O4 rG3 Od) hZ8 (wq hw 267 rfl) (wq hw 234 rfl) (by decide) (by decide)) (g := (mkF m 409 #[.val (.int p1), .val (.ref x_1), .val (.ref y_1), .val (.long (p1.toInt64)), .second, .val (.int (1 : Int32)), .val (.long (-(p1.toInt64))), .second, .val (.int (Int32.ofNat (SBG.digits (absN p1)))), .val (.int (1 : Int32)), .val (.int (((13 : Int32) + (Int32.ofNat (SBG.digits (absN p1)))) + (6 : Int32))), .val (.ref la7), .val (.ref la8), .val (.int (1 : Int32)), .val (.int (1 : Int32)), .val (.int (13 : Int32)), .unset, .unset, .unset] [(.int (8 : Int32)), (.long (-(p1.toInt64))), (.int (Int32.ofNat (SBG.digits (absN p1)))), (.int (13 : Int32)), (.ref y_1)])) rfl (by rw [hml]; rfl) (argsL := [(.ref y_1), (.int (13 : Int32)), (.int (Int32.ofNat (SBG.digits (absN p1)))), (.long (-(p1.toInt64))), (.int (8 : Int32))]) (rest := []) (lenOf pd_31 rfl) rfl (by show 2 * 0 + _ ≤ _; exact Nat.le_of_eq rfl) (hb hby at_409) (fun _ _ => ⟨rfl, e29, (by decide : 15 + 0 ≤ _), (by decide : 3040 + 0 ≤ _)⟩)
    dsimp only [Pt.U, Pt.locs, Pt.cells, Pt.slots] at X30 l30 y30 z30 st30 hQ30
    have X30 := own_reb X30 l30 y30 z30
    obtain ⟨rfl, N30q, e30⟩ := hQ30
    have N30 := Fr.app N29 N30q
    refine GlW.pre (B := T30.setTop (mkF m 424 #[.val (.int p1), .val (.ref x_1), .val (.ref y_1), .val (.long (p1.toInt64)), .second, .val (.int (1 : Int32)), .val (.long (-(p1.toInt64))), .second, .val (.int (Int32.ofNat (SBG.digits (absN p1)))), .val (.int (1 : Int32)), .val (.int (((13 : Int32) + (Int32.ofNat (SBG.digits (absN p1)))) + (6 : Int32))), .val (.ref la7), .val (.ref la8), .val (.int (1 : Int32)), .val (.int (1 : Int32)), .val (.int (13 : Int32)), .unset, .unset, .unset] [(.int (9 : Int32)), (.long (-(p1.toInt64))), (.int (Int32.ofNat (SBG.digits (absN p1)))), (.int (13 : Int32)), (.ref y_1)])) (fun _ k => st30 _ (XS.ifNo X30.here hx rfl (hb hby at_412) rfl ((if0 _ _).trans (feq (by decide : ¬ ((1 : Int32) = (0 : Int32)))).1) (XS.aloadN X30.here hx rfl (hb hby at_415) rfl rfl (XS.iload X30.here hx rfl (hb hby at_416) rfl (XS.iload X30.here hx rfl (hb hby at_418) rfl (XS.lload X30.here hx rfl (hb hby at_420) rfl (XS.bipush X30.here hx rfl (hb hby at_422) k))))))) ?_
    obtain ⟨rv31, _, ⟨T31, L31, k31, n31⟩, -, X31, ⟨Lc31, hQ31, l31, y31, z31⟩, st31⟩ := Jvm.LawKit.callS X30 hx (y := (⟨"com/example/bourse/bourse/exchange/BoundedFileTooLongPinLaw", "d", "(Ljava/lang/String;IIJI)Z"⟩ : MethodName)) ho8 (mvT hZ8 (wq hw 265 rfl)) (mvT hZ8 (wq hw 266 rfl)) (mvT hZ8 (wq hw 234 rfl)) (mvT hZ8 (wq hw 267 rfl)) (by decide) (backOf (W := 0) (lawD l Z a0 hw [] y_1 (13 : Int32) (Int32.ofNat (SBG.digits (absN p1))) (-(p1.toInt64)) (9 : Int32) 9 13 (dgN p1) (absN p1) ty_1 ky_1 (msgL p1) G1 G3 h8 n0 Z0 sv_1 (by decide) rfl (own_an hsg) (by decide) (dg_bnd p1).2 (by decide) (by decide) (abs_le p1) (msg_dl hoS) (msg_dig hoS) O2 P5 O4 rG3 Od) hZ8 (wq hw 267 rfl) (wq hw 234 rfl) (by decide) (by decide)) (g := (mkF m 424 #[.val (.int p1), .val (.ref x_1), .val (.ref y_1), .val (.long (p1.toInt64)), .second, .val (.int (1 : Int32)), .val (.long (-(p1.toInt64))), .second, .val (.int (Int32.ofNat (SBG.digits (absN p1)))), .val (.int (1 : Int32)), .val (.int (((13 : Int32) + (Int32.ofNat (SBG.digits (absN p1)))) + (6 : Int32))), .val (.ref la7), .val (.ref la8), .val (.int (1 : Int32)), .val (.int (1 : Int32)), .val (.int (13 : Int32)), .unset, .unset, .unset] [(.int (9 : Int32)), (.long (-(p1.toInt64))), (.int (Int32.ofNat (SBG.digits (absN p1)))), (.int (13 : Int32)), (.ref y_1)])) rfl (by rw [hml]; rfl) (argsL := [(.ref y_1), (.int (13 : Int32)), (.int (Int32.ofNat (SBG.digits (absN p1)))), (.long (-(p1.toInt64))), (.int (9 : Int32))]) (rest := []) (lenOf pd_31 rfl) rfl (by show 2 * 0 + _ ≤ _; exact Nat.le_of_eq rfl) (hb hby at_424) (fun _ _ => ⟨rfl, e30, (by decide : 15 + 0 ≤ _), (by decide : 3040 + 0 ≤ _)⟩)
    dsimp only [Pt.U, Pt.locs, Pt.cells, Pt.slots] at X31 l31 y31 z31 st31 hQ31
    have X31 := own_reb X31 l31 y31 z31
    obtain ⟨rfl, N31q, e31⟩ := hQ31
    have N31 := Fr.app N30 N31q
    refine GlW.pre (B := T31.setTop (mkF m 442 #[.val (.int p1), .val (.ref x_1), .val (.ref y_1), .val (.long (p1.toInt64)), .second, .val (.int (1 : Int32)), .val (.long (-(p1.toInt64))), .second, .val (.int (Int32.ofNat (SBG.digits (absN p1)))), .val (.int (1 : Int32)), .val (.int (((13 : Int32) + (Int32.ofNat (SBG.digits (absN p1)))) + (6 : Int32))), .val (.ref la7), .val (.ref la8), .val (.int (1 : Int32)), .val (.int (1 : Int32)), .val (.int (13 : Int32)), .val (.int (1 : Int32)), .unset, .unset] [(.int ((13 : Int32) + (Int32.ofNat (SBG.digits (absN p1)))))])) (fun _ k => st31 _ (XS.ifNo X31.here hx rfl (hb hby at_427) rfl ((if0 _ _).trans (feq (by decide : ¬ ((1 : Int32) = (0 : Int32)))).1) (XS.iconst X31.here hx rfl (hb hby at_430) (XS.goto X31.here hx rfl (pc0 := 431) (pc' := 435) rfl (hb hby at_431) (by decide) (by decide) (XS.istore X31.here hx rfl (hb hby at_435) rfl (l' := #[.val (.int p1), .val (.ref x_1), .val (.ref y_1), .val (.long (p1.toInt64)), .second, .val (.int (1 : Int32)), .val (.long (-(p1.toInt64))), .second, .val (.int (Int32.ofNat (SBG.digits (absN p1)))), .val (.int (1 : Int32)), .val (.int (((13 : Int32) + (Int32.ofNat (SBG.digits (absN p1)))) + (6 : Int32))), .val (.ref la7), .val (.ref la8), .val (.int (1 : Int32)), .val (.int (1 : Int32)), .val (.int (13 : Int32)), .val (.int (1 : Int32)), .unset, .unset]) rfl (XS.iload X31.here hx rfl (hb hby at_437) rfl (XS.iload X31.here hx rfl (hb hby at_439) rfl (XS.iadd X31.here hx rfl (hb hby at_441) rfl k)))))))) ?_
    refine GlW.pre (B := T31.setTop (mkF m 450 #[.val (.int p1), .val (.ref x_1), .val (.ref y_1), .val (.long (p1.toInt64)), .second, .val (.int (1 : Int32)), .val (.long (-(p1.toInt64))), .second, .val (.int (Int32.ofNat (SBG.digits (absN p1)))), .val (.int (1 : Int32)), .val (.int (((13 : Int32) + (Int32.ofNat (SBG.digits (absN p1)))) + (6 : Int32))), .val (.ref la7), .val (.ref la8), .val (.int (1 : Int32)), .val (.int (1 : Int32)), .val (.int (13 : Int32)), .val (.int (1 : Int32)), .val (.int ((13 : Int32) + (Int32.ofNat (SBG.digits (absN p1))))), .unset] [(.int (0 : Int32)), (.ref la8), (.int ((13 : Int32) + (Int32.ofNat (SBG.digits (absN p1))))), (.ref y_1)])) (fun _ k => XS.istore X31.here hx rfl (hb hby at_442) rfl (l' := #[.val (.int p1), .val (.ref x_1), .val (.ref y_1), .val (.long (p1.toInt64)), .second, .val (.int (1 : Int32)), .val (.long (-(p1.toInt64))), .second, .val (.int (Int32.ofNat (SBG.digits (absN p1)))), .val (.int (1 : Int32)), .val (.int (((13 : Int32) + (Int32.ofNat (SBG.digits (absN p1)))) + (6 : Int32))), .val (.ref la7), .val (.ref la8), .val (.int (1 : Int32)), .val (.int (1 : Int32)), .val (.int (13 : Int32)), .val (.int (1 : Int32)), .val (.int ((13 : Int32) + (Int32.ofNat (SBG.digits (absN p1))))), .unset]) rfl (XS.aloadN X31.here hx rfl (hb hby at_444) rfl rfl (XS.iload X31.here hx rfl (hb hby at_445) rfl (XS.aload X31.here hx rfl (hb hby at_447) rfl rfl (XS.iconst X31.here hx rfl (hb hby at_449) k))))) ?_
    obtain ⟨rv32, _, ⟨T32, L32, k32, n32⟩, -, X32, ⟨Lc32, hQ32, l32, y32, z32⟩, st32⟩ := Jvm.LawKit.callS X31 hx (y := (⟨"com/example/bourse/bourse/exchange/BoundedFileTooLongPinLaw", "at", "(Ljava/lang/String;ILjava/lang/String;I)Z"⟩ : MethodName)) ho8 (mvT hZ8 (wq hw 240 rfl)) (mvT hZ8 (wq hw 241 rfl)) (mvT hZ8 (wq hw 234 rfl)) (mvT hZ8 (wq hw 242 rfl)) (by decide) (backOf (W := 0) (lawAt l Z a0 hw [] y_1 ((13 : Int32) + (Int32.ofNat (SBG.digits (absN p1)))) la8 (0 : Int32) (13 + dgN p1 + 0) 0 ty_1 ky_1 (msgL p1) lb8 _ sufL G1 G3 h8 n0 Z0 sv_1 (suf_s E_la8 F_value_la8 F_coder_la8 V_lb8) (own_add3 13 _ 0) (msg_ol hoS (by decide)) (by decide) (by decide) (msg_suf hoS) O2 P5 O4 rG3 Od) hZ8 (wq hw 242 rfl) (wq hw 234 rfl) (by decide) (by decide)) (g := (mkF m 450 #[.val (.int p1), .val (.ref x_1), .val (.ref y_1), .val (.long (p1.toInt64)), .second, .val (.int (1 : Int32)), .val (.long (-(p1.toInt64))), .second, .val (.int (Int32.ofNat (SBG.digits (absN p1)))), .val (.int (1 : Int32)), .val (.int (((13 : Int32) + (Int32.ofNat (SBG.digits (absN p1)))) + (6 : Int32))), .val (.ref la7), .val (.ref la8), .val (.int (1 : Int32)), .val (.int (1 : Int32)), .val (.int (13 : Int32)), .val (.int (1 : Int32)), .val (.int ((13 : Int32) + (Int32.ofNat (SBG.digits (absN p1))))), .unset] [(.int (0 : Int32)), (.ref la8), (.int ((13 : Int32) + (Int32.ofNat (SBG.digits (absN p1))))), (.ref y_1)])) rfl (by rw [hml]; rfl) (argsL := [(.ref y_1), (.int ((13 : Int32) + (Int32.ofNat (SBG.digits (absN p1))))), (.ref la8), (.int (0 : Int32))]) (rest := []) (lenOf pd_30 rfl) rfl (by show 2 * 0 + _ ≤ _; exact Nat.le_of_eq rfl) (hb hby at_450) (fun _ _ => ⟨rfl, e31, (by decide : 15 + 0 ≤ _), (by decide : 3040 + 0 ≤ _)⟩)
    dsimp only [Pt.U, Pt.locs, Pt.cells, Pt.slots] at X32 l32 y32 z32 st32 hQ32
    have X32 := own_reb X32 l32 y32 z32
    obtain ⟨rfl, N32q, e32⟩ := hQ32
    have N32 := Fr.app N31 N32q
    refine GlW.pre (B := T32.setTop (mkF m 462 #[.val (.int p1), .val (.ref x_1), .val (.ref y_1), .val (.long (p1.toInt64)), .second, .val (.int (1 : Int32)), .val (.long (-(p1.toInt64))), .second, .val (.int (Int32.ofNat (SBG.digits (absN p1)))), .val (.int (1 : Int32)), .val (.int (((13 : Int32) + (Int32.ofNat (SBG.digits (absN p1)))) + (6 : Int32))), .val (.ref la7), .val (.ref la8), .val (.int (1 : Int32)), .val (.int (1 : Int32)), .val (.int (13 : Int32)), .val (.int (1 : Int32)), .val (.int ((13 : Int32) + (Int32.ofNat (SBG.digits (absN p1))))), .unset] [(.int (1 : Int32)), (.ref la8), (.int ((13 : Int32) + (Int32.ofNat (SBG.digits (absN p1))))), (.ref y_1)])) (fun _ k => st32 _ (XS.ifNo X32.here hx rfl (hb hby at_453) rfl ((if0 _ _).trans (feq (by decide : ¬ ((1 : Int32) = (0 : Int32)))).1) (XS.aloadN X32.here hx rfl (hb hby at_456) rfl rfl (XS.iload X32.here hx rfl (hb hby at_457) rfl (XS.aload X32.here hx rfl (hb hby at_459) rfl rfl (XS.iconst X32.here hx rfl (hb hby at_461) k)))))) ?_
    obtain ⟨rv33, _, ⟨T33, L33, k33, n33⟩, -, X33, ⟨Lc33, hQ33, l33, y33, z33⟩, st33⟩ := Jvm.LawKit.callS X32 hx (y := (⟨"com/example/bourse/bourse/exchange/BoundedFileTooLongPinLaw", "at", "(Ljava/lang/String;ILjava/lang/String;I)Z"⟩ : MethodName)) ho8 (mvT hZ8 (wq hw 240 rfl)) (mvT hZ8 (wq hw 241 rfl)) (mvT hZ8 (wq hw 234 rfl)) (mvT hZ8 (wq hw 242 rfl)) (by decide) (backOf (W := 0) (lawAt l Z a0 hw [] y_1 ((13 : Int32) + (Int32.ofNat (SBG.digits (absN p1)))) la8 (1 : Int32) (13 + dgN p1 + 1) 1 ty_1 ky_1 (msgL p1) lb8 _ sufL G1 G3 h8 n0 Z0 sv_1 (suf_s E_la8 F_value_la8 F_coder_la8 V_lb8) (own_add3 13 _ 1) (msg_ol hoS (by decide)) (by decide) (by decide) (msg_suf hoS) O2 P5 O4 rG3 Od) hZ8 (wq hw 242 rfl) (wq hw 234 rfl) (by decide) (by decide)) (g := (mkF m 462 #[.val (.int p1), .val (.ref x_1), .val (.ref y_1), .val (.long (p1.toInt64)), .second, .val (.int (1 : Int32)), .val (.long (-(p1.toInt64))), .second, .val (.int (Int32.ofNat (SBG.digits (absN p1)))), .val (.int (1 : Int32)), .val (.int (((13 : Int32) + (Int32.ofNat (SBG.digits (absN p1)))) + (6 : Int32))), .val (.ref la7), .val (.ref la8), .val (.int (1 : Int32)), .val (.int (1 : Int32)), .val (.int (13 : Int32)), .val (.int (1 : Int32)), .val (.int ((13 : Int32) + (Int32.ofNat (SBG.digits (absN p1))))), .unset] [(.int (1 : Int32)), (.ref la8), (.int ((13 : Int32) + (Int32.ofNat (SBG.digits (absN p1))))), (.ref y_1)])) rfl (by rw [hml]; rfl) (argsL := [(.ref y_1), (.int ((13 : Int32) + (Int32.ofNat (SBG.digits (absN p1))))), (.ref la8), (.int (1 : Int32))]) (rest := []) (lenOf pd_30 rfl) rfl (by show 2 * 0 + _ ≤ _; exact Nat.le_of_eq rfl) (hb hby at_462) (fun _ _ => ⟨rfl, e32, (by decide : 15 + 0 ≤ _), (by decide : 3040 + 0 ≤ _)⟩)
    dsimp only [Pt.U, Pt.locs, Pt.cells, Pt.slots] at X33 l33 y33 z33 st33 hQ33
    have X33 := own_reb X33 l33 y33 z33
    obtain ⟨rfl, N33q, e33⟩ := hQ33
    have N33 := Fr.app N32 N33q
    refine GlW.pre (B := T33.setTop (mkF m 474 #[.val (.int p1), .val (.ref x_1), .val (.ref y_1), .val (.long (p1.toInt64)), .second, .val (.int (1 : Int32)), .val (.long (-(p1.toInt64))), .second, .val (.int (Int32.ofNat (SBG.digits (absN p1)))), .val (.int (1 : Int32)), .val (.int (((13 : Int32) + (Int32.ofNat (SBG.digits (absN p1)))) + (6 : Int32))), .val (.ref la7), .val (.ref la8), .val (.int (1 : Int32)), .val (.int (1 : Int32)), .val (.int (13 : Int32)), .val (.int (1 : Int32)), .val (.int ((13 : Int32) + (Int32.ofNat (SBG.digits (absN p1))))), .unset] [(.int (2 : Int32)), (.ref la8), (.int ((13 : Int32) + (Int32.ofNat (SBG.digits (absN p1))))), (.ref y_1)])) (fun _ k => st33 _ (XS.ifNo X33.here hx rfl (hb hby at_465) rfl ((if0 _ _).trans (feq (by decide : ¬ ((1 : Int32) = (0 : Int32)))).1) (XS.aloadN X33.here hx rfl (hb hby at_468) rfl rfl (XS.iload X33.here hx rfl (hb hby at_469) rfl (XS.aload X33.here hx rfl (hb hby at_471) rfl rfl (XS.iconst X33.here hx rfl (hb hby at_473) k)))))) ?_
    obtain ⟨rv34, _, ⟨T34, L34, k34, n34⟩, -, X34, ⟨Lc34, hQ34, l34, y34, z34⟩, st34⟩ := Jvm.LawKit.callS X33 hx (y := (⟨"com/example/bourse/bourse/exchange/BoundedFileTooLongPinLaw", "at", "(Ljava/lang/String;ILjava/lang/String;I)Z"⟩ : MethodName)) ho8 (mvT hZ8 (wq hw 240 rfl)) (mvT hZ8 (wq hw 241 rfl)) (mvT hZ8 (wq hw 234 rfl)) (mvT hZ8 (wq hw 242 rfl)) (by decide) (backOf (W := 0) (lawAt l Z a0 hw [] y_1 ((13 : Int32) + (Int32.ofNat (SBG.digits (absN p1)))) la8 (2 : Int32) (13 + dgN p1 + 2) 2 ty_1 ky_1 (msgL p1) lb8 _ sufL G1 G3 h8 n0 Z0 sv_1 (suf_s E_la8 F_value_la8 F_coder_la8 V_lb8) (own_add3 13 _ 2) (msg_ol hoS (by decide)) (by decide) (by decide) (msg_suf hoS) O2 P5 O4 rG3 Od) hZ8 (wq hw 242 rfl) (wq hw 234 rfl) (by decide) (by decide)) (g := (mkF m 474 #[.val (.int p1), .val (.ref x_1), .val (.ref y_1), .val (.long (p1.toInt64)), .second, .val (.int (1 : Int32)), .val (.long (-(p1.toInt64))), .second, .val (.int (Int32.ofNat (SBG.digits (absN p1)))), .val (.int (1 : Int32)), .val (.int (((13 : Int32) + (Int32.ofNat (SBG.digits (absN p1)))) + (6 : Int32))), .val (.ref la7), .val (.ref la8), .val (.int (1 : Int32)), .val (.int (1 : Int32)), .val (.int (13 : Int32)), .val (.int (1 : Int32)), .val (.int ((13 : Int32) + (Int32.ofNat (SBG.digits (absN p1))))), .unset] [(.int (2 : Int32)), (.ref la8), (.int ((13 : Int32) + (Int32.ofNat (SBG.digits (absN p1))))), (.ref y_1)])) rfl (by rw [hml]; rfl) (argsL := [(.ref y_1), (.int ((13 : Int32) + (Int32.ofNat (SBG.digits (absN p1))))), (.ref la8), (.int (2 : Int32))]) (rest := []) (lenOf pd_30 rfl) rfl (by show 2 * 0 + _ ≤ _; exact Nat.le_of_eq rfl) (hb hby at_474) (fun _ _ => ⟨rfl, e33, (by decide : 15 + 0 ≤ _), (by decide : 3040 + 0 ≤ _)⟩)
    dsimp only [Pt.U, Pt.locs, Pt.cells, Pt.slots] at X34 l34 y34 z34 st34 hQ34
    have X34 := own_reb X34 l34 y34 z34
    obtain ⟨rfl, N34q, e34⟩ := hQ34
    have N34 := Fr.app N33 N34q
    refine GlW.pre (B := T34.setTop (mkF m 486 #[.val (.int p1), .val (.ref x_1), .val (.ref y_1), .val (.long (p1.toInt64)), .second, .val (.int (1 : Int32)), .val (.long (-(p1.toInt64))), .second, .val (.int (Int32.ofNat (SBG.digits (absN p1)))), .val (.int (1 : Int32)), .val (.int (((13 : Int32) + (Int32.ofNat (SBG.digits (absN p1)))) + (6 : Int32))), .val (.ref la7), .val (.ref la8), .val (.int (1 : Int32)), .val (.int (1 : Int32)), .val (.int (13 : Int32)), .val (.int (1 : Int32)), .val (.int ((13 : Int32) + (Int32.ofNat (SBG.digits (absN p1))))), .unset] [(.int (3 : Int32)), (.ref la8), (.int ((13 : Int32) + (Int32.ofNat (SBG.digits (absN p1))))), (.ref y_1)])) (fun _ k => st34 _ (XS.ifNo X34.here hx rfl (hb hby at_477) rfl ((if0 _ _).trans (feq (by decide : ¬ ((1 : Int32) = (0 : Int32)))).1) (XS.aloadN X34.here hx rfl (hb hby at_480) rfl rfl (XS.iload X34.here hx rfl (hb hby at_481) rfl (XS.aload X34.here hx rfl (hb hby at_483) rfl rfl (XS.iconst X34.here hx rfl (hb hby at_485) k)))))) ?_
    obtain ⟨rv35, _, ⟨T35, L35, k35, n35⟩, -, X35, ⟨Lc35, hQ35, l35, y35, z35⟩, st35⟩ := Jvm.LawKit.callS X34 hx (y := (⟨"com/example/bourse/bourse/exchange/BoundedFileTooLongPinLaw", "at", "(Ljava/lang/String;ILjava/lang/String;I)Z"⟩ : MethodName)) ho8 (mvT hZ8 (wq hw 240 rfl)) (mvT hZ8 (wq hw 241 rfl)) (mvT hZ8 (wq hw 234 rfl)) (mvT hZ8 (wq hw 242 rfl)) (by decide) (backOf (W := 0) (lawAt l Z a0 hw [] y_1 ((13 : Int32) + (Int32.ofNat (SBG.digits (absN p1)))) la8 (3 : Int32) (13 + dgN p1 + 3) 3 ty_1 ky_1 (msgL p1) lb8 _ sufL G1 G3 h8 n0 Z0 sv_1 (suf_s E_la8 F_value_la8 F_coder_la8 V_lb8) (own_add3 13 _ 3) (msg_ol hoS (by decide)) (by decide) (by decide) (msg_suf hoS) O2 P5 O4 rG3 Od) hZ8 (wq hw 242 rfl) (wq hw 234 rfl) (by decide) (by decide)) (g := (mkF m 486 #[.val (.int p1), .val (.ref x_1), .val (.ref y_1), .val (.long (p1.toInt64)), .second, .val (.int (1 : Int32)), .val (.long (-(p1.toInt64))), .second, .val (.int (Int32.ofNat (SBG.digits (absN p1)))), .val (.int (1 : Int32)), .val (.int (((13 : Int32) + (Int32.ofNat (SBG.digits (absN p1)))) + (6 : Int32))), .val (.ref la7), .val (.ref la8), .val (.int (1 : Int32)), .val (.int (1 : Int32)), .val (.int (13 : Int32)), .val (.int (1 : Int32)), .val (.int ((13 : Int32) + (Int32.ofNat (SBG.digits (absN p1))))), .unset] [(.int (3 : Int32)), (.ref la8), (.int ((13 : Int32) + (Int32.ofNat (SBG.digits (absN p1))))), (.ref y_1)])) rfl (by rw [hml]; rfl) (argsL := [(.ref y_1), (.int ((13 : Int32) + (Int32.ofNat (SBG.digits (absN p1))))), (.ref la8), (.int (3 : Int32))]) (rest := []) (lenOf pd_30 rfl) rfl (by show 2 * 0 + _ ≤ _; exact Nat.le_of_eq rfl) (hb hby at_486) (fun _ _ => ⟨rfl, e34, (by decide : 15 + 0 ≤ _), (by decide : 3040 + 0 ≤ _)⟩)
    dsimp only [Pt.U, Pt.locs, Pt.cells, Pt.slots] at X35 l35 y35 z35 st35 hQ35
    have X35 := own_reb X35 l35 y35 z35
    obtain ⟨rfl, N35q, e35⟩ := hQ35
    have N35 := Fr.app N34 N35q
    refine GlW.pre (B := T35.setTop (mkF m 498 #[.val (.int p1), .val (.ref x_1), .val (.ref y_1), .val (.long (p1.toInt64)), .second, .val (.int (1 : Int32)), .val (.long (-(p1.toInt64))), .second, .val (.int (Int32.ofNat (SBG.digits (absN p1)))), .val (.int (1 : Int32)), .val (.int (((13 : Int32) + (Int32.ofNat (SBG.digits (absN p1)))) + (6 : Int32))), .val (.ref la7), .val (.ref la8), .val (.int (1 : Int32)), .val (.int (1 : Int32)), .val (.int (13 : Int32)), .val (.int (1 : Int32)), .val (.int ((13 : Int32) + (Int32.ofNat (SBG.digits (absN p1))))), .unset] [(.int (4 : Int32)), (.ref la8), (.int ((13 : Int32) + (Int32.ofNat (SBG.digits (absN p1))))), (.ref y_1)])) (fun _ k => st35 _ (XS.ifNo X35.here hx rfl (hb hby at_489) rfl ((if0 _ _).trans (feq (by decide : ¬ ((1 : Int32) = (0 : Int32)))).1) (XS.aloadN X35.here hx rfl (hb hby at_492) rfl rfl (XS.iload X35.here hx rfl (hb hby at_493) rfl (XS.aload X35.here hx rfl (hb hby at_495) rfl rfl (XS.iconst X35.here hx rfl (hb hby at_497) k)))))) ?_
    obtain ⟨rv36, _, ⟨T36, L36, k36, n36⟩, -, X36, ⟨Lc36, hQ36, l36, y36, z36⟩, st36⟩ := Jvm.LawKit.callS X35 hx (y := (⟨"com/example/bourse/bourse/exchange/BoundedFileTooLongPinLaw", "at", "(Ljava/lang/String;ILjava/lang/String;I)Z"⟩ : MethodName)) ho8 (mvT hZ8 (wq hw 240 rfl)) (mvT hZ8 (wq hw 241 rfl)) (mvT hZ8 (wq hw 234 rfl)) (mvT hZ8 (wq hw 242 rfl)) (by decide) (backOf (W := 0) (lawAt l Z a0 hw [] y_1 ((13 : Int32) + (Int32.ofNat (SBG.digits (absN p1)))) la8 (4 : Int32) (13 + dgN p1 + 4) 4 ty_1 ky_1 (msgL p1) lb8 _ sufL G1 G3 h8 n0 Z0 sv_1 (suf_s E_la8 F_value_la8 F_coder_la8 V_lb8) (own_add3 13 _ 4) (msg_ol hoS (by decide)) (by decide) (by decide) (msg_suf hoS) O2 P5 O4 rG3 Od) hZ8 (wq hw 242 rfl) (wq hw 234 rfl) (by decide) (by decide)) (g := (mkF m 498 #[.val (.int p1), .val (.ref x_1), .val (.ref y_1), .val (.long (p1.toInt64)), .second, .val (.int (1 : Int32)), .val (.long (-(p1.toInt64))), .second, .val (.int (Int32.ofNat (SBG.digits (absN p1)))), .val (.int (1 : Int32)), .val (.int (((13 : Int32) + (Int32.ofNat (SBG.digits (absN p1)))) + (6 : Int32))), .val (.ref la7), .val (.ref la8), .val (.int (1 : Int32)), .val (.int (1 : Int32)), .val (.int (13 : Int32)), .val (.int (1 : Int32)), .val (.int ((13 : Int32) + (Int32.ofNat (SBG.digits (absN p1))))), .unset] [(.int (4 : Int32)), (.ref la8), (.int ((13 : Int32) + (Int32.ofNat (SBG.digits (absN p1))))), (.ref y_1)])) rfl (by rw [hml]; rfl) (argsL := [(.ref y_1), (.int ((13 : Int32) + (Int32.ofNat (SBG.digits (absN p1))))), (.ref la8), (.int (4 : Int32))]) (rest := []) (lenOf pd_30 rfl) rfl (by show 2 * 0 + _ ≤ _; exact Nat.le_of_eq rfl) (hb hby at_498) (fun _ _ => ⟨rfl, e35, (by decide : 15 + 0 ≤ _), (by decide : 3040 + 0 ≤ _)⟩)
    dsimp only [Pt.U, Pt.locs, Pt.cells, Pt.slots] at X36 l36 y36 z36 st36 hQ36
    have X36 := own_reb X36 l36 y36 z36
    obtain ⟨rfl, N36q, e36⟩ := hQ36
    have N36 := Fr.app N35 N36q
    refine GlW.pre (B := T36.setTop (mkF m 510 #[.val (.int p1), .val (.ref x_1), .val (.ref y_1), .val (.long (p1.toInt64)), .second, .val (.int (1 : Int32)), .val (.long (-(p1.toInt64))), .second, .val (.int (Int32.ofNat (SBG.digits (absN p1)))), .val (.int (1 : Int32)), .val (.int (((13 : Int32) + (Int32.ofNat (SBG.digits (absN p1)))) + (6 : Int32))), .val (.ref la7), .val (.ref la8), .val (.int (1 : Int32)), .val (.int (1 : Int32)), .val (.int (13 : Int32)), .val (.int (1 : Int32)), .val (.int ((13 : Int32) + (Int32.ofNat (SBG.digits (absN p1))))), .unset] [(.int (5 : Int32)), (.ref la8), (.int ((13 : Int32) + (Int32.ofNat (SBG.digits (absN p1))))), (.ref y_1)])) (fun _ k => st36 _ (XS.ifNo X36.here hx rfl (hb hby at_501) rfl ((if0 _ _).trans (feq (by decide : ¬ ((1 : Int32) = (0 : Int32)))).1) (XS.aloadN X36.here hx rfl (hb hby at_504) rfl rfl (XS.iload X36.here hx rfl (hb hby at_505) rfl (XS.aload X36.here hx rfl (hb hby at_507) rfl rfl (XS.iconst X36.here hx rfl (hb hby at_509) k)))))) ?_
    obtain ⟨rv37, _, ⟨T37, L37, k37, n37⟩, -, X37, ⟨Lc37, hQ37, l37, y37, z37⟩, st37⟩ := Jvm.LawKit.callS X36 hx (y := (⟨"com/example/bourse/bourse/exchange/BoundedFileTooLongPinLaw", "at", "(Ljava/lang/String;ILjava/lang/String;I)Z"⟩ : MethodName)) ho8 (mvT hZ8 (wq hw 240 rfl)) (mvT hZ8 (wq hw 241 rfl)) (mvT hZ8 (wq hw 234 rfl)) (mvT hZ8 (wq hw 242 rfl)) (by decide) (backOf (W := 0) (lawAt l Z a0 hw [] y_1 ((13 : Int32) + (Int32.ofNat (SBG.digits (absN p1)))) la8 (5 : Int32) (13 + dgN p1 + 5) 5 ty_1 ky_1 (msgL p1) lb8 _ sufL G1 G3 h8 n0 Z0 sv_1 (suf_s E_la8 F_value_la8 F_coder_la8 V_lb8) (own_add3 13 _ 5) (msg_ol hoS (by decide)) (by decide) (by decide) (msg_suf hoS) O2 P5 O4 rG3 Od) hZ8 (wq hw 242 rfl) (wq hw 234 rfl) (by decide) (by decide)) (g := (mkF m 510 #[.val (.int p1), .val (.ref x_1), .val (.ref y_1), .val (.long (p1.toInt64)), .second, .val (.int (1 : Int32)), .val (.long (-(p1.toInt64))), .second, .val (.int (Int32.ofNat (SBG.digits (absN p1)))), .val (.int (1 : Int32)), .val (.int (((13 : Int32) + (Int32.ofNat (SBG.digits (absN p1)))) + (6 : Int32))), .val (.ref la7), .val (.ref la8), .val (.int (1 : Int32)), .val (.int (1 : Int32)), .val (.int (13 : Int32)), .val (.int (1 : Int32)), .val (.int ((13 : Int32) + (Int32.ofNat (SBG.digits (absN p1))))), .unset] [(.int (5 : Int32)), (.ref la8), (.int ((13 : Int32) + (Int32.ofNat (SBG.digits (absN p1))))), (.ref y_1)])) rfl (by rw [hml]; rfl) (argsL := [(.ref y_1), (.int ((13 : Int32) + (Int32.ofNat (SBG.digits (absN p1))))), (.ref la8), (.int (5 : Int32))]) (rest := []) (lenOf pd_30 rfl) rfl (by show 2 * 0 + _ ≤ _; exact Nat.le_of_eq rfl) (hb hby at_510) (fun _ _ => ⟨rfl, e36, (by decide : 15 + 0 ≤ _), (by decide : 3040 + 0 ≤ _)⟩)
    dsimp only [Pt.U, Pt.locs, Pt.cells, Pt.slots] at X37 l37 y37 z37 st37 hQ37
    have X37 := own_reb X37 l37 y37 z37
    obtain ⟨rfl, N37q, e37⟩ := hQ37
    have N37 := Fr.app N36 N37q
    refine GlW.pre (B := T37.setTop (mkF m 530 #[.val (.int p1), .val (.ref x_1), .val (.ref y_1), .val (.long (p1.toInt64)), .second, .val (.int (1 : Int32)), .val (.long (-(p1.toInt64))), .second, .val (.int (Int32.ofNat (SBG.digits (absN p1)))), .val (.int (1 : Int32)), .val (.int (((13 : Int32) + (Int32.ofNat (SBG.digits (absN p1)))) + (6 : Int32))), .val (.ref la7), .val (.ref la8), .val (.int (1 : Int32)), .val (.int (1 : Int32)), .val (.int (13 : Int32)), .val (.int (1 : Int32)), .val (.int ((13 : Int32) + (Int32.ofNat (SBG.digits (absN p1))))), .val (.int (1 : Int32))] [(.int (1 : Int32))])) (fun _ k => st37 _ (XS.ifNo X37.here hx rfl (hb hby at_513) rfl ((if0 _ _).trans (feq (by decide : ¬ ((1 : Int32) = (0 : Int32)))).1) (XS.iconst X37.here hx rfl (hb hby at_516) (XS.goto X37.here hx rfl (pc0 := 517) (pc' := 521) rfl (hb hby at_517) (by decide) (by decide) (XS.istore X37.here hx rfl (hb hby at_521) rfl (l' := #[.val (.int p1), .val (.ref x_1), .val (.ref y_1), .val (.long (p1.toInt64)), .second, .val (.int (1 : Int32)), .val (.long (-(p1.toInt64))), .second, .val (.int (Int32.ofNat (SBG.digits (absN p1)))), .val (.int (1 : Int32)), .val (.int (((13 : Int32) + (Int32.ofNat (SBG.digits (absN p1)))) + (6 : Int32))), .val (.ref la7), .val (.ref la8), .val (.int (1 : Int32)), .val (.int (1 : Int32)), .val (.int (13 : Int32)), .val (.int (1 : Int32)), .val (.int ((13 : Int32) + (Int32.ofNat (SBG.digits (absN p1))))), .val (.int (1 : Int32))]) rfl (XS.iload X37.here hx rfl (hb hby at_523) rfl (XS.ifNo X37.here hx rfl (hb hby at_525) rfl ((if0 _ _).trans (feq (by decide : ¬ ((1 : Int32) = (0 : Int32)))).1) (XS.iload X37.here hx rfl (hb hby at_528) rfl k)))))))) ?_
    refine GlW.pre (B := T37.setTop (mkF m 548 #[.val (.int p1), .val (.ref x_1), .val (.ref y_1), .val (.long (p1.toInt64)), .second, .val (.int (1 : Int32)), .val (.long (-(p1.toInt64))), .second, .val (.int (Int32.ofNat (SBG.digits (absN p1)))), .val (.int (1 : Int32)), .val (.int (((13 : Int32) + (Int32.ofNat (SBG.digits (absN p1)))) + (6 : Int32))), .val (.ref la7), .val (.ref la8), .val (.int (1 : Int32)), .val (.int (1 : Int32)), .val (.int (13 : Int32)), .val (.int (1 : Int32)), .val (.int ((13 : Int32) + (Int32.ofNat (SBG.digits (absN p1))))), .val (.int (1 : Int32))] [(.int (1 : Int32))])) (fun _ k => XS.ifNo X37.here hx rfl (hb hby at_530) rfl ((if0 _ _).trans (feq (by decide : ¬ ((1 : Int32) = (0 : Int32)))).1) (XS.iload X37.here hx rfl (hb hby at_533) rfl (XS.ifNo X37.here hx rfl (hb hby at_535) rfl ((if0 _ _).trans (feq (by decide : ¬ ((1 : Int32) = (0 : Int32)))).1) (XS.iload X37.here hx rfl (hb hby at_538) rfl (XS.ifNo X37.here hx rfl (hb hby at_540) rfl ((if0 _ _).trans (feq (by decide : ¬ ((1 : Int32) = (0 : Int32)))).1) (XS.iconst X37.here hx rfl (hb hby at_543) (XS.goto X37.here hx rfl (pc0 := 544) (pc' := 548) rfl (hb hby at_544) (by decide) (by decide) k))))))) ?_
    refine GlW.out X37 hsh e37 hS8 hk8 hZ8 hEL CR (v := some (.int (1 : Int32))) (fun h => by rw [hret] at h; cases h) hlk (fun fs hr => retN X37 hx (t := .boolean) hret (by simp) (hb hby at_548) hr) ?_ (by decide) (by decide)
    show Q_rm0 Z _ _ _ _ _ _ _ _ _ _ h0 n0 _ T37.heap _
    rw [e37]
    exact ⟨rfl, N37⟩
  · refine GlW.pre (B := T3.setTop (mkF m 47 #[.val (.int p1), .val (.ref x_1), .val (.ref y_1), .val (.long (p1.toInt64)), .second, .val (.int (0 : Int32)), .unset, .unset, .unset, .unset, .unset, .unset, .unset, .unset, .unset, .unset, .unset, .unset, .unset] [])) (fun _ k => XS.ifYes X3.here hx rfl (pc0 := 37) (pc' := 44) rfl (hb hby at_37) rfl ((if0 _ _).trans (flt hc37_4).2.1) (by decide) (by decide) (XS.iconst X3.here hx rfl (hb hby at_44) (XS.istore X3.here hx rfl (hb hby at_45) rfl (l' := #[.val (.int p1), .val (.ref x_1), .val (.ref y_1), .val (.long (p1.toInt64)), .second, .val (.int (0 : Int32)), .unset, .unset, .unset, .unset, .unset, .unset, .unset, .unset, .unset, .unset, .unset, .unset, .unset]) rfl k))) ?_
    have hsg : ¬ p1 < 0 := fun z => hc37_4 (own_neg64.mpr z)
    have hoS : 12 = 12 + GetChars.sgn p1 := own_s12 hsg
    obtain ⟨E_y_1, Fv_y_1, Fc_y_1, V_y_1, hb_y_1, hl_y_1⟩ := id sv_1
    refine GlW.pre (B := T3.setTop (mkF m 62 #[.val (.int p1), .val (.ref x_1), .val (.ref y_1), .val (.long (p1.toInt64)), .second, .val (.int (0 : Int32)), .val (.long (p1.toInt64)), .second, .unset, .unset, .unset, .unset, .unset, .unset, .unset, .unset, .unset, .unset, .unset] [(.long (p1.toInt64))])) (fun _ k => XS.iload X3.here hx rfl (hb hby at_47) rfl (XS.ifYes X3.here hx rfl (pc0 := 49) (pc' := 57) rfl (hb hby at_49) rfl ((if0 _ _).trans (teq (by decide : (0 : Int32) = (0 : Int32))).1) (by decide) (by decide) (XS.lloadN X3.here hx rfl (hb hby at_57) rfl (XS.lstore X3.here hx rfl (hb hby at_58) rfl (l' := #[.val (.int p1), .val (.ref x_1), .val (.ref y_1), .val (.long (p1.toInt64)), .second, .val (.int (0 : Int32)), .val (.long (p1.toInt64)), .second, .unset, .unset, .unset, .unset, .unset, .unset, .unset, .unset, .unset, .unset, .unset]) rfl (XS.lload X3.here hx rfl (hb hby at_60) rfl k))))) ?_
    obtain ⟨rv38, _, ⟨T38, L38, k38, n38⟩, -, X38, ⟨Lc38, hQ38, l38, y38, z38⟩, st38⟩ := Jvm.LawKit.callS X3 hx (y := (⟨"com/example/bourse/bourse/exchange/BoundedFileTooLongPinLaw", "digits", "(J)I"⟩ : MethodName)) ho1 (mvT hZ1 (wq hw 232 rfl)) (mvT hZ1 (wq hw 233 rfl)) (mvT hZ1 (wq hw 234 rfl)) (mvT hZ1 (wq hw 235 rfl)) (by decide) (backOf (W := 0) (lawDig l Z a0 hw [] (p1.toInt64) (absN p1) T1.heap n0 Z0 (own_ap hsg) (abs_le p1)) hZ1 (wq hw 235 rfl) (wq hw 234 rfl) (by decide) (by decide)) (g := (mkF m 62 #[.val (.int p1), .val (.ref x_1), .val (.ref y_1), .val (.long (p1.toInt64)), .second, .val (.int (0 : Int32)), .val (.long (p1.toInt64)), .second, .unset, .unset, .unset, .unset, .unset, .unset, .unset, .unset, .unset, .unset, .unset] [(.long (p1.toInt64))])) rfl (by rw [hml]; rfl) (argsL := [(.long (p1.toInt64))]) (rest := []) (lenOf pd_29 rfl) rfl (by show 2 * 0 + _ ≤ _; exact Nat.le_of_eq rfl) (hb hby at_62) (fun _ _ => ⟨rfl, e3, (by decide : 11 + 0 ≤ _), (by decide : 2960 + 0 ≤ _)⟩)
    dsimp only [Pt.U, Pt.locs, Pt.cells, Pt.slots] at X38 l38 y38 z38 st38 hQ38
    have X38 := own_reb X38 l38 y38 z38
    obtain ⟨rfl, N38q, e38⟩ := hQ38
    have N38 := Fr.app N3 N38q
    refine GlW.pre (B := T38.setTop (mkF m 83 #[.val (.int p1), .val (.ref x_1), .val (.ref y_1), .val (.long (p1.toInt64)), .second, .val (.int (0 : Int32)), .val (.long (p1.toInt64)), .second, .val (.int (Int32.ofNat (SBG.digits (absN p1)))), .val (.int (0 : Int32)), .unset, .unset, .unset, .unset, .unset, .unset, .unset, .unset, .unset] [(.int (0 : Int32)), (.int (12 : Int32))])) (fun _ k => st38 _ (XS.istore X38.here hx rfl (hb hby at_65) rfl (l' := #[.val (.int p1), .val (.ref x_1), .val (.ref y_1), .val (.long (p1.toInt64)), .second, .val (.int (0 : Int32)), .val (.long (p1.toInt64)), .second, .val (.int (Int32.ofNat (SBG.digits (absN p1)))), .unset, .unset, .unset, .unset, .unset, .unset, .unset, .unset, .unset, .unset]) rfl (XS.iload X38.here hx rfl (hb hby at_67) rfl (XS.ifYes X38.here hx rfl (pc0 := 69) (pc' := 76) rfl (hb hby at_69) rfl ((if0 _ _).trans (teq (by decide : (0 : Int32) = (0 : Int32))).1) (by decide) (by decide) (XS.iconst X38.here hx rfl (hb hby at_76) (XS.istore X38.here hx rfl (hb hby at_77) rfl (l' := #[.val (.int p1), .val (.ref x_1), .val (.ref y_1), .val (.long (p1.toInt64)), .second, .val (.int (0 : Int32)), .val (.long (p1.toInt64)), .second, .val (.int (Int32.ofNat (SBG.digits (absN p1)))), .val (.int (0 : Int32)), .unset, .unset, .unset, .unset, .unset, .unset, .unset, .unset, .unset]) rfl (XS.bipush X38.here hx rfl (hb hby at_79) (XS.iload X38.here hx rfl (hb hby at_81) rfl k)))))))) ?_
    refine GlW.pre (B := T38.setTop (mkF m 84 #[.val (.int p1), .val (.ref x_1), .val (.ref y_1), .val (.long (p1.toInt64)), .second, .val (.int (0 : Int32)), .val (.long (p1.toInt64)), .second, .val (.int (Int32.ofNat (SBG.digits (absN p1)))), .val (.int (0 : Int32)), .unset, .unset, .unset, .unset, .unset, .unset, .unset, .unset, .unset] [(.int ((12 : Int32) + (0 : Int32)))])) (fun _ k => XS.iadd X38.here hx rfl (hb hby at_83) rfl k) ?_
    rw [show ((12 : Int32) + (0 : Int32)) = (12 : Int32) from by decide]
    refine GlW.pre (B := T38.setTop (mkF m 93 #[.val (.int p1), .val (.ref x_1), .val (.ref y_1), .val (.long (p1.toInt64)), .second, .val (.int (0 : Int32)), .val (.long (p1.toInt64)), .second, .val (.int (Int32.ofNat (SBG.digits (absN p1)))), .val (.int (0 : Int32)), .val (.int (((12 : Int32) + (Int32.ofNat (SBG.digits (absN p1)))) + (6 : Int32))), .unset, .unset, .unset, .unset, .unset, .unset, .unset, .unset] [(.ref y_1)])) (fun _ k => XS.iload X38.here hx rfl (hb hby at_84) rfl (XS.iadd X38.here hx rfl (hb hby at_86) rfl (XS.bipush X38.here hx rfl (hb hby at_87) (XS.iadd X38.here hx rfl (hb hby at_89) rfl (XS.istore X38.here hx rfl (hb hby at_90) rfl (l' := #[.val (.int p1), .val (.ref x_1), .val (.ref y_1), .val (.long (p1.toInt64)), .second, .val (.int (0 : Int32)), .val (.long (p1.toInt64)), .second, .val (.int (Int32.ofNat (SBG.digits (absN p1)))), .val (.int (0 : Int32)), .val (.int (((12 : Int32) + (Int32.ofNat (SBG.digits (absN p1)))) + (6 : Int32))), .unset, .unset, .unset, .unset, .unset, .unset, .unset, .unset]) rfl (XS.aloadN X38.here hx rfl (hb hby at_92) rfl rfl k)))))) ?_
    obtain ⟨cq39, kq39, q39a, q39b, q39c⟩ := isOf hZ1 e38 E_y_1
    obtain ⟨rv39, _, ⟨T39, L39, k39, n39⟩, -, X39, ⟨Lc39, hQ39, l39, y39, z39⟩, st39⟩ := X38.virtualBack hx (y := (⟨"java/lang/String", "length", "()I"⟩ : MethodName)) (z := (⟨"java/lang/String", "length", "()I"⟩ : MethodName)) ho1 (mvT hZ1 (wq hw 237 rfl)) (mvT hZ1 (wq hw 46 rfl)) (notFace_of_selects (args := #[]) (mvT hZ1 (wq hw 48 rfl))) (mvT hZ1 (wq hw 48 rfl)) (mvT hZ1 (wq hw 47 rfl)) (by decide) (backOf (W := 0) (strLen l Z a0 hw [] y_1 ty_1 ky_1 (msgL p1) G1 T1.heap n0 Z0 sv_1 O2 P5 Od) hZ1 (wq hw 49 rfl) (wq hw 23 rfl) (by decide) (by decide)) q39a q39c (g := (mkF m 93 #[.val (.int p1), .val (.ref x_1), .val (.ref y_1), .val (.long (p1.toInt64)), .second, .val (.int (0 : Int32)), .val (.long (p1.toInt64)), .second, .val (.int (Int32.ofNat (SBG.digits (absN p1)))), .val (.int (0 : Int32)), .val (.int (((12 : Int32) + (Int32.ofNat (SBG.digits (absN p1)))) + (6 : Int32))), .unset, .unset, .unset, .unset, .unset, .unset, .unset, .unset] [(.ref y_1)])) rfl (by rw [hml]; rfl) (Steps.refl _) (argsL := []) (rest := []) (lenOf pd_5 rfl) rfl (by show 2 * 0 + _ ≤ _; exact Nat.le_of_eq rfl) (hb hby at_93) (fun _ _ => ⟨rfl, e38, (by decide : 11 + 0 ≤ _), (by decide : 2960 + 0 ≤ _)⟩)
    dsimp only [Pt.U, Pt.locs, Pt.cells, Pt.slots] at X39 l39 y39 z39 st39 hQ39
    have X39 := own_reb X39 l39 y39 z39
    obtain ⟨rfl, N39q, e39⟩ := hQ39
    have N39 := Fr.app N38 N39q
    refine GlW.pre (B := T39.setTop (mkF m 103 #[.val (.int p1), .val (.ref x_1), .val (.ref y_1), .val (.long (p1.toInt64)), .second, .val (.int (0 : Int32)), .val (.long (p1.toInt64)), .second, .val (.int (Int32.ofNat (SBG.digits (absN p1)))), .val (.int (0 : Int32)), .val (.int (((12 : Int32) + (Int32.ofNat (SBG.digits (absN p1)))) + (6 : Int32))), .unset, .unset, .unset, .unset, .unset, .unset, .unset, .unset] [])) (fun _ k => st39.trans (XS.iload X39.here hx rfl (hb hby at_96) rfl (XS.icmpYes X39.here hx rfl (pc0 := 98) (pc' := 103) rfl (hb hby at_98) rfl (teq (msg_l32 hoS : (Int32.ofNat (msgL p1).length) = (((12 : Int32) + (Int32.ofNat (SBG.digits (absN p1)))) + (6 : Int32)))).1 (by decide) (by decide) k))) ?_
    obtain ⟨la40, T40, h40, kk40, lb40, kc40, X40, e40, E40, hS40, hk40, hZ40, ho40, E_la40, F_coder_la40, F_value_la40, V_lb40, lt40, ltb40, C40, Li40, sn40, st40⟩ := ldcCH X39 hx hZ1 ho1 (wq hw 238 rfl) (string_atoms hw) e39 hS1 hk1 hEL (List.mem_of_getElem? (i := 2) rfl) CR.1 (vs := [(.int (108 : Int32)), (.int (111 : Int32)), (.int (110 : Int32)), (.int (103 : Int32)), (.int (101 : Int32)), (.int (114 : Int32)), (.int (32 : Int32)), (.int (116 : Int32)), (.int (104 : Int32)), (.int (97 : Int32)), (.int (110 : Int32)), (.int (32 : Int32))]) (z := 12) ⟨by decide, by decide⟩ (by decide) (by decide) (g := (mkF m 103 #[.val (.int p1), .val (.ref x_1), .val (.ref y_1), .val (.long (p1.toInt64)), .second, .val (.int (0 : Int32)), .val (.long (p1.toInt64)), .second, .val (.int (Int32.ofNat (SBG.digits (absN p1)))), .val (.int (0 : Int32)), .val (.int (((12 : Int32) + (Int32.ofNat (SBG.digits (absN p1)))) + (6 : Int32))), .unset, .unset, .unset, .unset, .unset, .unset, .unset, .unset] [])) rfl (hb hby at_103) (n := 48) (by decide) (by decide) (by decide) (by decide)
    have CR_q := CR.trans C40
    have Z0 := Nat.le_trans Z0 E40.1
    have Od := Od.ext E40
    have E_1 := E_1.ext E40
    have sv_1 := sv_1.ext E40
    have CR := CR_q
    have sn40_x_1 := sn40 x_1 (Safe.exa hZ40.alike E_1 (by decide) (by decide))
    refine GlW.pre (B := T40.setTop (mkF m 107 #[.val (.int p1), .val (.ref x_1), .val (.ref y_1), .val (.long (p1.toInt64)), .second, .val (.int (0 : Int32)), .val (.long (p1.toInt64)), .second, .val (.int (Int32.ofNat (SBG.digits (absN p1)))), .val (.int (0 : Int32)), .val (.int (((12 : Int32) + (Int32.ofNat (SBG.digits (absN p1)))) + (6 : Int32))), .val (.ref la40), .unset, .unset, .unset, .unset, .unset, .unset, .unset] [])) (fun _ k => st40 _ (XS.astore X40.here hx rfl (hb hby at_105) rfl rfl (l' := #[.val (.int p1), .val (.ref x_1), .val (.ref y_1), .val (.long (p1.toInt64)), .second, .val (.int (0 : Int32)), .val (.long (p1.toInt64)), .second, .val (.int (Int32.ofNat (SBG.digits (absN p1)))), .val (.int (0 : Int32)), .val (.int (((12 : Int32) + (Int32.ofNat (SBG.digits (absN p1)))) + (6 : Int32))), .val (.ref la40), .unset, .unset, .unset, .unset, .unset, .unset, .unset]) rfl k)) ?_
    obtain ⟨la41, T41, h41, kk41, lb41, kc41, X41, e41, E41, hS41, hk41, hZ41, ho41, E_la41, F_coder_la41, F_value_la41, V_lb41, lt41, ltb41, C41, Li41, sn41, st41⟩ := ldcCH X40 hx hZ40 ho40 (wq hw 239 rfl) (string_atoms hw) e40 hS40 hk40 hEL (List.mem_of_getElem? (i := 3) rfl) CR.1 (vs := [(.int (32 : Int32)), (.int (98 : Int32)), (.int (121 : Int32)), (.int (116 : Int32)), (.int (101 : Int32)), (.int (115 : Int32))]) (z := 6) ⟨by decide, by decide⟩ (by decide) (by decide) (g := (mkF m 107 #[.val (.int p1), .val (.ref x_1), .val (.ref y_1), .val (.long (p1.toInt64)), .second, .val (.int (0 : Int32)), .val (.long (p1.toInt64)), .second, .val (.int (Int32.ofNat (SBG.digits (absN p1)))), .val (.int (0 : Int32)), .val (.int (((12 : Int32) + (Int32.ofNat (SBG.digits (absN p1)))) + (6 : Int32))), .val (.ref la40), .unset, .unset, .unset, .unset, .unset, .unset, .unset] [])) rfl (hb hby at_107) (n := 24) (by decide) (by decide) (by decide) (by decide)
    have CR_q := CR.trans C41
    have Z0 := Nat.le_trans Z0 E41.1
    have Od := Od.ext E41
    have E_1 := E_1.ext E41
    have sv_1 := sv_1.ext E41
    have E_la40 := E_la40.ext E41
    have F_coder_la40 := F_coder_la40.ext E41
    have F_value_la40 := F_value_la40.ext E41
    have V_lb40 := V_lb40.ext E41
    have CR := CR_q
    have sn41_x_1 := sn41 x_1 (Safe.exa hZ41.alike E_1 (by decide) (by decide))
    refine GlW.pre (B := T41.setTop (mkF m 116 #[.val (.int p1), .val (.ref x_1), .val (.ref y_1), .val (.long (p1.toInt64)), .second, .val (.int (0 : Int32)), .val (.long (p1.toInt64)), .second, .val (.int (Int32.ofNat (SBG.digits (absN p1)))), .val (.int (0 : Int32)), .val (.int (((12 : Int32) + (Int32.ofNat (SBG.digits (absN p1)))) + (6 : Int32))), .val (.ref la40), .val (.ref la41), .unset, .unset, .unset, .unset, .unset, .unset] [(.int (0 : Int32)), (.ref la40), (.int (0 : Int32)), (.ref y_1)])) (fun _ k => st41 _ (XS.astore X41.here hx rfl (hb hby at_109) rfl rfl (l' := #[.val (.int p1), .val (.ref x_1), .val (.ref y_1), .val (.long (p1.toInt64)), .second, .val (.int (0 : Int32)), .val (.long (p1.toInt64)), .second, .val (.int (Int32.ofNat (SBG.digits (absN p1)))), .val (.int (0 : Int32)), .val (.int (((12 : Int32) + (Int32.ofNat (SBG.digits (absN p1)))) + (6 : Int32))), .val (.ref la40), .val (.ref la41), .unset, .unset, .unset, .unset, .unset, .unset]) rfl (XS.aloadN X41.here hx rfl (hb hby at_111) rfl rfl (XS.iconst X41.here hx rfl (hb hby at_112) (XS.aload X41.here hx rfl (hb hby at_113) rfl rfl (XS.iconst X41.here hx rfl (hb hby at_115) k)))))) ?_
    obtain ⟨rv42, _, ⟨T42, L42, k42, n42⟩, -, X42, ⟨Lc42, hQ42, l42, y42, z42⟩, st42⟩ := Jvm.LawKit.callS X41 hx (y := (⟨"com/example/bourse/bourse/exchange/BoundedFileTooLongPinLaw", "at", "(Ljava/lang/String;ILjava/lang/String;I)Z"⟩ : MethodName)) ho41 (mvT hZ41 (wq hw 240 rfl)) (mvT hZ41 (wq hw 241 rfl)) (mvT hZ41 (wq hw 234 rfl)) (mvT hZ41 (wq hw 242 rfl)) (by decide) (backOf (W := 0) (lawAt l Z a0 hw [] y_1 (0 : Int32) la40 (0 : Int32) 0 0 ty_1 ky_1 (msgL p1) lb40 _ preL G1 G3 h41 n0 Z0 sv_1 (pre_s E_la40 F_value_la40 F_coder_la40 V_lb40) (by decide) (msg_il (by decide)) (by decide) (by decide) (msg_pre (by decide)) O2 P5 O4 rG3 Od) hZ41 (wq hw 242 rfl) (wq hw 234 rfl) (by decide) (by decide)) (g := (mkF m 116 #[.val (.int p1), .val (.ref x_1), .val (.ref y_1), .val (.long (p1.toInt64)), .second, .val (.int (0 : Int32)), .val (.long (p1.toInt64)), .second, .val (.int (Int32.ofNat (SBG.digits (absN p1)))), .val (.int (0 : Int32)), .val (.int (((12 : Int32) + (Int32.ofNat (SBG.digits (absN p1)))) + (6 : Int32))), .val (.ref la40), .val (.ref la41), .unset, .unset, .unset, .unset, .unset, .unset] [(.int (0 : Int32)), (.ref la40), (.int (0 : Int32)), (.ref y_1)])) rfl (by rw [hml]; rfl) (argsL := [(.ref y_1), (.int (0 : Int32)), (.ref la40), (.int (0 : Int32))]) (rest := []) (lenOf pd_30 rfl) rfl (by show 2 * 0 + _ ≤ _; exact Nat.le_of_eq rfl) (hb hby at_116) (fun _ _ => ⟨rfl, e41, (by decide : 15 + 0 ≤ _), (by decide : 3040 + 0 ≤ _)⟩)
    dsimp only [Pt.U, Pt.locs, Pt.cells, Pt.slots] at X42 l42 y42 z42 st42 hQ42
    have X42 := own_reb X42 l42 y42 z42
    obtain ⟨rfl, N42q, e42⟩ := hQ42
    have N42 := Fr.app N39 N42q
    refine GlW.pre (B := T42.setTop (mkF m 127 #[.val (.int p1), .val (.ref x_1), .val (.ref y_1), .val (.long (p1.toInt64)), .second, .val (.int (0 : Int32)), .val (.long (p1.toInt64)), .second, .val (.int (Int32.ofNat (SBG.digits (absN p1)))), .val (.int (0 : Int32)), .val (.int (((12 : Int32) + (Int32.ofNat (SBG.digits (absN p1)))) + (6 : Int32))), .val (.ref la40), .val (.ref la41), .unset, .unset, .unset, .unset, .unset, .unset] [(.int (1 : Int32)), (.ref la40), (.int (0 : Int32)), (.ref y_1)])) (fun _ k => st42 _ (XS.ifNo X42.here hx rfl (hb hby at_119) rfl ((if0 _ _).trans (feq (by decide : ¬ ((1 : Int32) = (0 : Int32)))).1) (XS.aloadN X42.here hx rfl (hb hby at_122) rfl rfl (XS.iconst X42.here hx rfl (hb hby at_123) (XS.aload X42.here hx rfl (hb hby at_124) rfl rfl (XS.iconst X42.here hx rfl (hb hby at_126) k)))))) ?_
    obtain ⟨rv43, _, ⟨T43, L43, k43, n43⟩, -, X43, ⟨Lc43, hQ43, l43, y43, z43⟩, st43⟩ := Jvm.LawKit.callS X42 hx (y := (⟨"com/example/bourse/bourse/exchange/BoundedFileTooLongPinLaw", "at", "(Ljava/lang/String;ILjava/lang/String;I)Z"⟩ : MethodName)) ho41 (mvT hZ41 (wq hw 240 rfl)) (mvT hZ41 (wq hw 241 rfl)) (mvT hZ41 (wq hw 234 rfl)) (mvT hZ41 (wq hw 242 rfl)) (by decide) (backOf (W := 0) (lawAt l Z a0 hw [] y_1 (0 : Int32) la40 (1 : Int32) 1 1 ty_1 ky_1 (msgL p1) lb40 _ preL G1 G3 h41 n0 Z0 sv_1 (pre_s E_la40 F_value_la40 F_coder_la40 V_lb40) (by decide) (msg_il (by decide)) (by decide) (by decide) (msg_pre (by decide)) O2 P5 O4 rG3 Od) hZ41 (wq hw 242 rfl) (wq hw 234 rfl) (by decide) (by decide)) (g := (mkF m 127 #[.val (.int p1), .val (.ref x_1), .val (.ref y_1), .val (.long (p1.toInt64)), .second, .val (.int (0 : Int32)), .val (.long (p1.toInt64)), .second, .val (.int (Int32.ofNat (SBG.digits (absN p1)))), .val (.int (0 : Int32)), .val (.int (((12 : Int32) + (Int32.ofNat (SBG.digits (absN p1)))) + (6 : Int32))), .val (.ref la40), .val (.ref la41), .unset, .unset, .unset, .unset, .unset, .unset] [(.int (1 : Int32)), (.ref la40), (.int (0 : Int32)), (.ref y_1)])) rfl (by rw [hml]; rfl) (argsL := [(.ref y_1), (.int (0 : Int32)), (.ref la40), (.int (1 : Int32))]) (rest := []) (lenOf pd_30 rfl) rfl (by show 2 * 0 + _ ≤ _; exact Nat.le_of_eq rfl) (hb hby at_127) (fun _ _ => ⟨rfl, e42, (by decide : 15 + 0 ≤ _), (by decide : 3040 + 0 ≤ _)⟩)
    dsimp only [Pt.U, Pt.locs, Pt.cells, Pt.slots] at X43 l43 y43 z43 st43 hQ43
    have X43 := own_reb X43 l43 y43 z43
    obtain ⟨rfl, N43q, e43⟩ := hQ43
    have N43 := Fr.app N42 N43q
    refine GlW.pre (B := T43.setTop (mkF m 138 #[.val (.int p1), .val (.ref x_1), .val (.ref y_1), .val (.long (p1.toInt64)), .second, .val (.int (0 : Int32)), .val (.long (p1.toInt64)), .second, .val (.int (Int32.ofNat (SBG.digits (absN p1)))), .val (.int (0 : Int32)), .val (.int (((12 : Int32) + (Int32.ofNat (SBG.digits (absN p1)))) + (6 : Int32))), .val (.ref la40), .val (.ref la41), .unset, .unset, .unset, .unset, .unset, .unset] [(.int (2 : Int32)), (.ref la40), (.int (0 : Int32)), (.ref y_1)])) (fun _ k => st43 _ (XS.ifNo X43.here hx rfl (hb hby at_130) rfl ((if0 _ _).trans (feq (by decide : ¬ ((1 : Int32) = (0 : Int32)))).1) (XS.aloadN X43.here hx rfl (hb hby at_133) rfl rfl (XS.iconst X43.here hx rfl (hb hby at_134) (XS.aload X43.here hx rfl (hb hby at_135) rfl rfl (XS.iconst X43.here hx rfl (hb hby at_137) k)))))) ?_
    obtain ⟨rv44, _, ⟨T44, L44, k44, n44⟩, -, X44, ⟨Lc44, hQ44, l44, y44, z44⟩, st44⟩ := Jvm.LawKit.callS X43 hx (y := (⟨"com/example/bourse/bourse/exchange/BoundedFileTooLongPinLaw", "at", "(Ljava/lang/String;ILjava/lang/String;I)Z"⟩ : MethodName)) ho41 (mvT hZ41 (wq hw 240 rfl)) (mvT hZ41 (wq hw 241 rfl)) (mvT hZ41 (wq hw 234 rfl)) (mvT hZ41 (wq hw 242 rfl)) (by decide) (backOf (W := 0) (lawAt l Z a0 hw [] y_1 (0 : Int32) la40 (2 : Int32) 2 2 ty_1 ky_1 (msgL p1) lb40 _ preL G1 G3 h41 n0 Z0 sv_1 (pre_s E_la40 F_value_la40 F_coder_la40 V_lb40) (by decide) (msg_il (by decide)) (by decide) (by decide) (msg_pre (by decide)) O2 P5 O4 rG3 Od) hZ41 (wq hw 242 rfl) (wq hw 234 rfl) (by decide) (by decide)) (g := (mkF m 138 #[.val (.int p1), .val (.ref x_1), .val (.ref y_1), .val (.long (p1.toInt64)), .second, .val (.int (0 : Int32)), .val (.long (p1.toInt64)), .second, .val (.int (Int32.ofNat (SBG.digits (absN p1)))), .val (.int (0 : Int32)), .val (.int (((12 : Int32) + (Int32.ofNat (SBG.digits (absN p1)))) + (6 : Int32))), .val (.ref la40), .val (.ref la41), .unset, .unset, .unset, .unset, .unset, .unset] [(.int (2 : Int32)), (.ref la40), (.int (0 : Int32)), (.ref y_1)])) rfl (by rw [hml]; rfl) (argsL := [(.ref y_1), (.int (0 : Int32)), (.ref la40), (.int (2 : Int32))]) (rest := []) (lenOf pd_30 rfl) rfl (by show 2 * 0 + _ ≤ _; exact Nat.le_of_eq rfl) (hb hby at_138) (fun _ _ => ⟨rfl, e43, (by decide : 15 + 0 ≤ _), (by decide : 3040 + 0 ≤ _)⟩)
    dsimp only [Pt.U, Pt.locs, Pt.cells, Pt.slots] at X44 l44 y44 z44 st44 hQ44
    have X44 := own_reb X44 l44 y44 z44
    obtain ⟨rfl, N44q, e44⟩ := hQ44
    have N44 := Fr.app N43 N44q
    refine GlW.pre (B := T44.setTop (mkF m 149 #[.val (.int p1), .val (.ref x_1), .val (.ref y_1), .val (.long (p1.toInt64)), .second, .val (.int (0 : Int32)), .val (.long (p1.toInt64)), .second, .val (.int (Int32.ofNat (SBG.digits (absN p1)))), .val (.int (0 : Int32)), .val (.int (((12 : Int32) + (Int32.ofNat (SBG.digits (absN p1)))) + (6 : Int32))), .val (.ref la40), .val (.ref la41), .unset, .unset, .unset, .unset, .unset, .unset] [(.int (3 : Int32)), (.ref la40), (.int (0 : Int32)), (.ref y_1)])) (fun _ k => st44 _ (XS.ifNo X44.here hx rfl (hb hby at_141) rfl ((if0 _ _).trans (feq (by decide : ¬ ((1 : Int32) = (0 : Int32)))).1) (XS.aloadN X44.here hx rfl (hb hby at_144) rfl rfl (XS.iconst X44.here hx rfl (hb hby at_145) (XS.aload X44.here hx rfl (hb hby at_146) rfl rfl (XS.iconst X44.here hx rfl (hb hby at_148) k)))))) ?_
    obtain ⟨rv45, _, ⟨T45, L45, k45, n45⟩, -, X45, ⟨Lc45, hQ45, l45, y45, z45⟩, st45⟩ := Jvm.LawKit.callS X44 hx (y := (⟨"com/example/bourse/bourse/exchange/BoundedFileTooLongPinLaw", "at", "(Ljava/lang/String;ILjava/lang/String;I)Z"⟩ : MethodName)) ho41 (mvT hZ41 (wq hw 240 rfl)) (mvT hZ41 (wq hw 241 rfl)) (mvT hZ41 (wq hw 234 rfl)) (mvT hZ41 (wq hw 242 rfl)) (by decide) (backOf (W := 0) (lawAt l Z a0 hw [] y_1 (0 : Int32) la40 (3 : Int32) 3 3 ty_1 ky_1 (msgL p1) lb40 _ preL G1 G3 h41 n0 Z0 sv_1 (pre_s E_la40 F_value_la40 F_coder_la40 V_lb40) (by decide) (msg_il (by decide)) (by decide) (by decide) (msg_pre (by decide)) O2 P5 O4 rG3 Od) hZ41 (wq hw 242 rfl) (wq hw 234 rfl) (by decide) (by decide)) (g := (mkF m 149 #[.val (.int p1), .val (.ref x_1), .val (.ref y_1), .val (.long (p1.toInt64)), .second, .val (.int (0 : Int32)), .val (.long (p1.toInt64)), .second, .val (.int (Int32.ofNat (SBG.digits (absN p1)))), .val (.int (0 : Int32)), .val (.int (((12 : Int32) + (Int32.ofNat (SBG.digits (absN p1)))) + (6 : Int32))), .val (.ref la40), .val (.ref la41), .unset, .unset, .unset, .unset, .unset, .unset] [(.int (3 : Int32)), (.ref la40), (.int (0 : Int32)), (.ref y_1)])) rfl (by rw [hml]; rfl) (argsL := [(.ref y_1), (.int (0 : Int32)), (.ref la40), (.int (3 : Int32))]) (rest := []) (lenOf pd_30 rfl) rfl (by show 2 * 0 + _ ≤ _; exact Nat.le_of_eq rfl) (hb hby at_149) (fun _ _ => ⟨rfl, e44, (by decide : 15 + 0 ≤ _), (by decide : 3040 + 0 ≤ _)⟩)
    dsimp only [Pt.U, Pt.locs, Pt.cells, Pt.slots] at X45 l45 y45 z45 st45 hQ45
    have X45 := own_reb X45 l45 y45 z45
    obtain ⟨rfl, N45q, e45⟩ := hQ45
    have N45 := Fr.app N44 N45q
    refine GlW.pre (B := T45.setTop (mkF m 160 #[.val (.int p1), .val (.ref x_1), .val (.ref y_1), .val (.long (p1.toInt64)), .second, .val (.int (0 : Int32)), .val (.long (p1.toInt64)), .second, .val (.int (Int32.ofNat (SBG.digits (absN p1)))), .val (.int (0 : Int32)), .val (.int (((12 : Int32) + (Int32.ofNat (SBG.digits (absN p1)))) + (6 : Int32))), .val (.ref la40), .val (.ref la41), .unset, .unset, .unset, .unset, .unset, .unset] [(.int (4 : Int32)), (.ref la40), (.int (0 : Int32)), (.ref y_1)])) (fun _ k => st45 _ (XS.ifNo X45.here hx rfl (hb hby at_152) rfl ((if0 _ _).trans (feq (by decide : ¬ ((1 : Int32) = (0 : Int32)))).1) (XS.aloadN X45.here hx rfl (hb hby at_155) rfl rfl (XS.iconst X45.here hx rfl (hb hby at_156) (XS.aload X45.here hx rfl (hb hby at_157) rfl rfl (XS.iconst X45.here hx rfl (hb hby at_159) k)))))) ?_
    obtain ⟨rv46, _, ⟨T46, L46, k46, n46⟩, -, X46, ⟨Lc46, hQ46, l46, y46, z46⟩, st46⟩ := Jvm.LawKit.callS X45 hx (y := (⟨"com/example/bourse/bourse/exchange/BoundedFileTooLongPinLaw", "at", "(Ljava/lang/String;ILjava/lang/String;I)Z"⟩ : MethodName)) ho41 (mvT hZ41 (wq hw 240 rfl)) (mvT hZ41 (wq hw 241 rfl)) (mvT hZ41 (wq hw 234 rfl)) (mvT hZ41 (wq hw 242 rfl)) (by decide) (backOf (W := 0) (lawAt l Z a0 hw [] y_1 (0 : Int32) la40 (4 : Int32) 4 4 ty_1 ky_1 (msgL p1) lb40 _ preL G1 G3 h41 n0 Z0 sv_1 (pre_s E_la40 F_value_la40 F_coder_la40 V_lb40) (by decide) (msg_il (by decide)) (by decide) (by decide) (msg_pre (by decide)) O2 P5 O4 rG3 Od) hZ41 (wq hw 242 rfl) (wq hw 234 rfl) (by decide) (by decide)) (g := (mkF m 160 #[.val (.int p1), .val (.ref x_1), .val (.ref y_1), .val (.long (p1.toInt64)), .second, .val (.int (0 : Int32)), .val (.long (p1.toInt64)), .second, .val (.int (Int32.ofNat (SBG.digits (absN p1)))), .val (.int (0 : Int32)), .val (.int (((12 : Int32) + (Int32.ofNat (SBG.digits (absN p1)))) + (6 : Int32))), .val (.ref la40), .val (.ref la41), .unset, .unset, .unset, .unset, .unset, .unset] [(.int (4 : Int32)), (.ref la40), (.int (0 : Int32)), (.ref y_1)])) rfl (by rw [hml]; rfl) (argsL := [(.ref y_1), (.int (0 : Int32)), (.ref la40), (.int (4 : Int32))]) (rest := []) (lenOf pd_30 rfl) rfl (by show 2 * 0 + _ ≤ _; exact Nat.le_of_eq rfl) (hb hby at_160) (fun _ _ => ⟨rfl, e45, (by decide : 15 + 0 ≤ _), (by decide : 3040 + 0 ≤ _)⟩)
    dsimp only [Pt.U, Pt.locs, Pt.cells, Pt.slots] at X46 l46 y46 z46 st46 hQ46
    have X46 := own_reb X46 l46 y46 z46
    obtain ⟨rfl, N46q, e46⟩ := hQ46
    have N46 := Fr.app N45 N46q
    refine GlW.pre (B := T46.setTop (mkF m 171 #[.val (.int p1), .val (.ref x_1), .val (.ref y_1), .val (.long (p1.toInt64)), .second, .val (.int (0 : Int32)), .val (.long (p1.toInt64)), .second, .val (.int (Int32.ofNat (SBG.digits (absN p1)))), .val (.int (0 : Int32)), .val (.int (((12 : Int32) + (Int32.ofNat (SBG.digits (absN p1)))) + (6 : Int32))), .val (.ref la40), .val (.ref la41), .unset, .unset, .unset, .unset, .unset, .unset] [(.int (5 : Int32)), (.ref la40), (.int (0 : Int32)), (.ref y_1)])) (fun _ k => st46 _ (XS.ifNo X46.here hx rfl (hb hby at_163) rfl ((if0 _ _).trans (feq (by decide : ¬ ((1 : Int32) = (0 : Int32)))).1) (XS.aloadN X46.here hx rfl (hb hby at_166) rfl rfl (XS.iconst X46.here hx rfl (hb hby at_167) (XS.aload X46.here hx rfl (hb hby at_168) rfl rfl (XS.iconst X46.here hx rfl (hb hby at_170) k)))))) ?_
    obtain ⟨rv47, _, ⟨T47, L47, k47, n47⟩, -, X47, ⟨Lc47, hQ47, l47, y47, z47⟩, st47⟩ := Jvm.LawKit.callS X46 hx (y := (⟨"com/example/bourse/bourse/exchange/BoundedFileTooLongPinLaw", "at", "(Ljava/lang/String;ILjava/lang/String;I)Z"⟩ : MethodName)) ho41 (mvT hZ41 (wq hw 240 rfl)) (mvT hZ41 (wq hw 241 rfl)) (mvT hZ41 (wq hw 234 rfl)) (mvT hZ41 (wq hw 242 rfl)) (by decide) (backOf (W := 0) (lawAt l Z a0 hw [] y_1 (0 : Int32) la40 (5 : Int32) 5 5 ty_1 ky_1 (msgL p1) lb40 _ preL G1 G3 h41 n0 Z0 sv_1 (pre_s E_la40 F_value_la40 F_coder_la40 V_lb40) (by decide) (msg_il (by decide)) (by decide) (by decide) (msg_pre (by decide)) O2 P5 O4 rG3 Od) hZ41 (wq hw 242 rfl) (wq hw 234 rfl) (by decide) (by decide)) (g := (mkF m 171 #[.val (.int p1), .val (.ref x_1), .val (.ref y_1), .val (.long (p1.toInt64)), .second, .val (.int (0 : Int32)), .val (.long (p1.toInt64)), .second, .val (.int (Int32.ofNat (SBG.digits (absN p1)))), .val (.int (0 : Int32)), .val (.int (((12 : Int32) + (Int32.ofNat (SBG.digits (absN p1)))) + (6 : Int32))), .val (.ref la40), .val (.ref la41), .unset, .unset, .unset, .unset, .unset, .unset] [(.int (5 : Int32)), (.ref la40), (.int (0 : Int32)), (.ref y_1)])) rfl (by rw [hml]; rfl) (argsL := [(.ref y_1), (.int (0 : Int32)), (.ref la40), (.int (5 : Int32))]) (rest := []) (lenOf pd_30 rfl) rfl (by show 2 * 0 + _ ≤ _; exact Nat.le_of_eq rfl) (hb hby at_171) (fun _ _ => ⟨rfl, e46, (by decide : 15 + 0 ≤ _), (by decide : 3040 + 0 ≤ _)⟩)
    dsimp only [Pt.U, Pt.locs, Pt.cells, Pt.slots] at X47 l47 y47 z47 st47 hQ47
    have X47 := own_reb X47 l47 y47 z47
    obtain ⟨rfl, N47q, e47⟩ := hQ47
    have N47 := Fr.app N46 N47q
    refine GlW.pre (B := T47.setTop (mkF m 183 #[.val (.int p1), .val (.ref x_1), .val (.ref y_1), .val (.long (p1.toInt64)), .second, .val (.int (0 : Int32)), .val (.long (p1.toInt64)), .second, .val (.int (Int32.ofNat (SBG.digits (absN p1)))), .val (.int (0 : Int32)), .val (.int (((12 : Int32) + (Int32.ofNat (SBG.digits (absN p1)))) + (6 : Int32))), .val (.ref la40), .val (.ref la41), .unset, .unset, .unset, .unset, .unset, .unset] [(.int (6 : Int32)), (.ref la40), (.int (0 : Int32)), (.ref y_1)])) (fun _ k => st47 _ (XS.ifNo X47.here hx rfl (hb hby at_174) rfl ((if0 _ _).trans (feq (by decide : ¬ ((1 : Int32) = (0 : Int32)))).1) (XS.aloadN X47.here hx rfl (hb hby at_177) rfl rfl (XS.iconst X47.here hx rfl (hb hby at_178) (XS.aload X47.here hx rfl (hb hby at_179) rfl rfl (XS.bipush X47.here hx rfl (hb hby at_181) k)))))) ?_
    obtain ⟨rv48, _, ⟨T48, L48, k48, n48⟩, -, X48, ⟨Lc48, hQ48, l48, y48, z48⟩, st48⟩ := Jvm.LawKit.callS X47 hx (y := (⟨"com/example/bourse/bourse/exchange/BoundedFileTooLongPinLaw", "at", "(Ljava/lang/String;ILjava/lang/String;I)Z"⟩ : MethodName)) ho41 (mvT hZ41 (wq hw 240 rfl)) (mvT hZ41 (wq hw 241 rfl)) (mvT hZ41 (wq hw 234 rfl)) (mvT hZ41 (wq hw 242 rfl)) (by decide) (backOf (W := 0) (lawAt l Z a0 hw [] y_1 (0 : Int32) la40 (6 : Int32) 6 6 ty_1 ky_1 (msgL p1) lb40 _ preL G1 G3 h41 n0 Z0 sv_1 (pre_s E_la40 F_value_la40 F_coder_la40 V_lb40) (by decide) (msg_il (by decide)) (by decide) (by decide) (msg_pre (by decide)) O2 P5 O4 rG3 Od) hZ41 (wq hw 242 rfl) (wq hw 234 rfl) (by decide) (by decide)) (g := (mkF m 183 #[.val (.int p1), .val (.ref x_1), .val (.ref y_1), .val (.long (p1.toInt64)), .second, .val (.int (0 : Int32)), .val (.long (p1.toInt64)), .second, .val (.int (Int32.ofNat (SBG.digits (absN p1)))), .val (.int (0 : Int32)), .val (.int (((12 : Int32) + (Int32.ofNat (SBG.digits (absN p1)))) + (6 : Int32))), .val (.ref la40), .val (.ref la41), .unset, .unset, .unset, .unset, .unset, .unset] [(.int (6 : Int32)), (.ref la40), (.int (0 : Int32)), (.ref y_1)])) rfl (by rw [hml]; rfl) (argsL := [(.ref y_1), (.int (0 : Int32)), (.ref la40), (.int (6 : Int32))]) (rest := []) (lenOf pd_30 rfl) rfl (by show 2 * 0 + _ ≤ _; exact Nat.le_of_eq rfl) (hb hby at_183) (fun _ _ => ⟨rfl, e47, (by decide : 15 + 0 ≤ _), (by decide : 3040 + 0 ≤ _)⟩)
    dsimp only [Pt.U, Pt.locs, Pt.cells, Pt.slots] at X48 l48 y48 z48 st48 hQ48
    have X48 := own_reb X48 l48 y48 z48
    obtain ⟨rfl, N48q, e48⟩ := hQ48
    have N48 := Fr.app N47 N48q
    refine GlW.pre (B := T48.setTop (mkF m 195 #[.val (.int p1), .val (.ref x_1), .val (.ref y_1), .val (.long (p1.toInt64)), .second, .val (.int (0 : Int32)), .val (.long (p1.toInt64)), .second, .val (.int (Int32.ofNat (SBG.digits (absN p1)))), .val (.int (0 : Int32)), .val (.int (((12 : Int32) + (Int32.ofNat (SBG.digits (absN p1)))) + (6 : Int32))), .val (.ref la40), .val (.ref la41), .unset, .unset, .unset, .unset, .unset, .unset] [(.int (7 : Int32)), (.ref la40), (.int (0 : Int32)), (.ref y_1)])) (fun _ k => st48 _ (XS.ifNo X48.here hx rfl (hb hby at_186) rfl ((if0 _ _).trans (feq (by decide : ¬ ((1 : Int32) = (0 : Int32)))).1) (XS.aloadN X48.here hx rfl (hb hby at_189) rfl rfl (XS.iconst X48.here hx rfl (hb hby at_190) (XS.aload X48.here hx rfl (hb hby at_191) rfl rfl (XS.bipush X48.here hx rfl (hb hby at_193) k)))))) ?_
    obtain ⟨rv49, _, ⟨T49, L49, k49, n49⟩, -, X49, ⟨Lc49, hQ49, l49, y49, z49⟩, st49⟩ := Jvm.LawKit.callS X48 hx (y := (⟨"com/example/bourse/bourse/exchange/BoundedFileTooLongPinLaw", "at", "(Ljava/lang/String;ILjava/lang/String;I)Z"⟩ : MethodName)) ho41 (mvT hZ41 (wq hw 240 rfl)) (mvT hZ41 (wq hw 241 rfl)) (mvT hZ41 (wq hw 234 rfl)) (mvT hZ41 (wq hw 242 rfl)) (by decide) (backOf (W := 0) (lawAt l Z a0 hw [] y_1 (0 : Int32) la40 (7 : Int32) 7 7 ty_1 ky_1 (msgL p1) lb40 _ preL G1 G3 h41 n0 Z0 sv_1 (pre_s E_la40 F_value_la40 F_coder_la40 V_lb40) (by decide) (msg_il (by decide)) (by decide) (by decide) (msg_pre (by decide)) O2 P5 O4 rG3 Od) hZ41 (wq hw 242 rfl) (wq hw 234 rfl) (by decide) (by decide)) (g := (mkF m 195 #[.val (.int p1), .val (.ref x_1), .val (.ref y_1), .val (.long (p1.toInt64)), .second, .val (.int (0 : Int32)), .val (.long (p1.toInt64)), .second, .val (.int (Int32.ofNat (SBG.digits (absN p1)))), .val (.int (0 : Int32)), .val (.int (((12 : Int32) + (Int32.ofNat (SBG.digits (absN p1)))) + (6 : Int32))), .val (.ref la40), .val (.ref la41), .unset, .unset, .unset, .unset, .unset, .unset] [(.int (7 : Int32)), (.ref la40), (.int (0 : Int32)), (.ref y_1)])) rfl (by rw [hml]; rfl) (argsL := [(.ref y_1), (.int (0 : Int32)), (.ref la40), (.int (7 : Int32))]) (rest := []) (lenOf pd_30 rfl) rfl (by show 2 * 0 + _ ≤ _; exact Nat.le_of_eq rfl) (hb hby at_195) (fun _ _ => ⟨rfl, e48, (by decide : 15 + 0 ≤ _), (by decide : 3040 + 0 ≤ _)⟩)
    dsimp only [Pt.U, Pt.locs, Pt.cells, Pt.slots] at X49 l49 y49 z49 st49 hQ49
    have X49 := own_reb X49 l49 y49 z49
    obtain ⟨rfl, N49q, e49⟩ := hQ49
    have N49 := Fr.app N48 N49q
    refine GlW.pre (B := T49.setTop (mkF m 207 #[.val (.int p1), .val (.ref x_1), .val (.ref y_1), .val (.long (p1.toInt64)), .second, .val (.int (0 : Int32)), .val (.long (p1.toInt64)), .second, .val (.int (Int32.ofNat (SBG.digits (absN p1)))), .val (.int (0 : Int32)), .val (.int (((12 : Int32) + (Int32.ofNat (SBG.digits (absN p1)))) + (6 : Int32))), .val (.ref la40), .val (.ref la41), .unset, .unset, .unset, .unset, .unset, .unset] [(.int (8 : Int32)), (.ref la40), (.int (0 : Int32)), (.ref y_1)])) (fun _ k => st49 _ (XS.ifNo X49.here hx rfl (hb hby at_198) rfl ((if0 _ _).trans (feq (by decide : ¬ ((1 : Int32) = (0 : Int32)))).1) (XS.aloadN X49.here hx rfl (hb hby at_201) rfl rfl (XS.iconst X49.here hx rfl (hb hby at_202) (XS.aload X49.here hx rfl (hb hby at_203) rfl rfl (XS.bipush X49.here hx rfl (hb hby at_205) k)))))) ?_
    obtain ⟨rv50, _, ⟨T50, L50, k50, n50⟩, -, X50, ⟨Lc50, hQ50, l50, y50, z50⟩, st50⟩ := Jvm.LawKit.callS X49 hx (y := (⟨"com/example/bourse/bourse/exchange/BoundedFileTooLongPinLaw", "at", "(Ljava/lang/String;ILjava/lang/String;I)Z"⟩ : MethodName)) ho41 (mvT hZ41 (wq hw 240 rfl)) (mvT hZ41 (wq hw 241 rfl)) (mvT hZ41 (wq hw 234 rfl)) (mvT hZ41 (wq hw 242 rfl)) (by decide) (backOf (W := 0) (lawAt l Z a0 hw [] y_1 (0 : Int32) la40 (8 : Int32) 8 8 ty_1 ky_1 (msgL p1) lb40 _ preL G1 G3 h41 n0 Z0 sv_1 (pre_s E_la40 F_value_la40 F_coder_la40 V_lb40) (by decide) (msg_il (by decide)) (by decide) (by decide) (msg_pre (by decide)) O2 P5 O4 rG3 Od) hZ41 (wq hw 242 rfl) (wq hw 234 rfl) (by decide) (by decide)) (g := (mkF m 207 #[.val (.int p1), .val (.ref x_1), .val (.ref y_1), .val (.long (p1.toInt64)), .second, .val (.int (0 : Int32)), .val (.long (p1.toInt64)), .second, .val (.int (Int32.ofNat (SBG.digits (absN p1)))), .val (.int (0 : Int32)), .val (.int (((12 : Int32) + (Int32.ofNat (SBG.digits (absN p1)))) + (6 : Int32))), .val (.ref la40), .val (.ref la41), .unset, .unset, .unset, .unset, .unset, .unset] [(.int (8 : Int32)), (.ref la40), (.int (0 : Int32)), (.ref y_1)])) rfl (by rw [hml]; rfl) (argsL := [(.ref y_1), (.int (0 : Int32)), (.ref la40), (.int (8 : Int32))]) (rest := []) (lenOf pd_30 rfl) rfl (by show 2 * 0 + _ ≤ _; exact Nat.le_of_eq rfl) (hb hby at_207) (fun _ _ => ⟨rfl, e49, (by decide : 15 + 0 ≤ _), (by decide : 3040 + 0 ≤ _)⟩)
    dsimp only [Pt.U, Pt.locs, Pt.cells, Pt.slots] at X50 l50 y50 z50 st50 hQ50
    have X50 := own_reb X50 l50 y50 z50
    obtain ⟨rfl, N50q, e50⟩ := hQ50
    have N50 := Fr.app N49 N50q
    refine GlW.pre (B := T50.setTop (mkF m 219 #[.val (.int p1), .val (.ref x_1), .val (.ref y_1), .val (.long (p1.toInt64)), .second, .val (.int (0 : Int32)), .val (.long (p1.toInt64)), .second, .val (.int (Int32.ofNat (SBG.digits (absN p1)))), .val (.int (0 : Int32)), .val (.int (((12 : Int32) + (Int32.ofNat (SBG.digits (absN p1)))) + (6 : Int32))), .val (.ref la40), .val (.ref la41), .unset, .unset, .unset, .unset, .unset, .unset] [(.int (9 : Int32)), (.ref la40), (.int (0 : Int32)), (.ref y_1)])) (fun _ k => st50 _ (XS.ifNo X50.here hx rfl (hb hby at_210) rfl ((if0 _ _).trans (feq (by decide : ¬ ((1 : Int32) = (0 : Int32)))).1) (XS.aloadN X50.here hx rfl (hb hby at_213) rfl rfl (XS.iconst X50.here hx rfl (hb hby at_214) (XS.aload X50.here hx rfl (hb hby at_215) rfl rfl (XS.bipush X50.here hx rfl (hb hby at_217) k)))))) ?_
    obtain ⟨rv51, _, ⟨T51, L51, k51, n51⟩, -, X51, ⟨Lc51, hQ51, l51, y51, z51⟩, st51⟩ := Jvm.LawKit.callS X50 hx (y := (⟨"com/example/bourse/bourse/exchange/BoundedFileTooLongPinLaw", "at", "(Ljava/lang/String;ILjava/lang/String;I)Z"⟩ : MethodName)) ho41 (mvT hZ41 (wq hw 240 rfl)) (mvT hZ41 (wq hw 241 rfl)) (mvT hZ41 (wq hw 234 rfl)) (mvT hZ41 (wq hw 242 rfl)) (by decide) (backOf (W := 0) (lawAt l Z a0 hw [] y_1 (0 : Int32) la40 (9 : Int32) 9 9 ty_1 ky_1 (msgL p1) lb40 _ preL G1 G3 h41 n0 Z0 sv_1 (pre_s E_la40 F_value_la40 F_coder_la40 V_lb40) (by decide) (msg_il (by decide)) (by decide) (by decide) (msg_pre (by decide)) O2 P5 O4 rG3 Od) hZ41 (wq hw 242 rfl) (wq hw 234 rfl) (by decide) (by decide)) (g := (mkF m 219 #[.val (.int p1), .val (.ref x_1), .val (.ref y_1), .val (.long (p1.toInt64)), .second, .val (.int (0 : Int32)), .val (.long (p1.toInt64)), .second, .val (.int (Int32.ofNat (SBG.digits (absN p1)))), .val (.int (0 : Int32)), .val (.int (((12 : Int32) + (Int32.ofNat (SBG.digits (absN p1)))) + (6 : Int32))), .val (.ref la40), .val (.ref la41), .unset, .unset, .unset, .unset, .unset, .unset] [(.int (9 : Int32)), (.ref la40), (.int (0 : Int32)), (.ref y_1)])) rfl (by rw [hml]; rfl) (argsL := [(.ref y_1), (.int (0 : Int32)), (.ref la40), (.int (9 : Int32))]) (rest := []) (lenOf pd_30 rfl) rfl (by show 2 * 0 + _ ≤ _; exact Nat.le_of_eq rfl) (hb hby at_219) (fun _ _ => ⟨rfl, e50, (by decide : 15 + 0 ≤ _), (by decide : 3040 + 0 ≤ _)⟩)
    dsimp only [Pt.U, Pt.locs, Pt.cells, Pt.slots] at X51 l51 y51 z51 st51 hQ51
    have X51 := own_reb X51 l51 y51 z51
    obtain ⟨rfl, N51q, e51⟩ := hQ51
    have N51 := Fr.app N50 N51q
    refine GlW.pre (B := T51.setTop (mkF m 231 #[.val (.int p1), .val (.ref x_1), .val (.ref y_1), .val (.long (p1.toInt64)), .second, .val (.int (0 : Int32)), .val (.long (p1.toInt64)), .second, .val (.int (Int32.ofNat (SBG.digits (absN p1)))), .val (.int (0 : Int32)), .val (.int (((12 : Int32) + (Int32.ofNat (SBG.digits (absN p1)))) + (6 : Int32))), .val (.ref la40), .val (.ref la41), .unset, .unset, .unset, .unset, .unset, .unset] [(.int (10 : Int32)), (.ref la40), (.int (0 : Int32)), (.ref y_1)])) (fun _ k => st51 _ (XS.ifNo X51.here hx rfl (hb hby at_222) rfl ((if0 _ _).trans (feq (by decide : ¬ ((1 : Int32) = (0 : Int32)))).1) (XS.aloadN X51.here hx rfl (hb hby at_225) rfl rfl (XS.iconst X51.here hx rfl (hb hby at_226) (XS.aload X51.here hx rfl (hb hby at_227) rfl rfl (XS.bipush X51.here hx rfl (hb hby at_229) k)))))) ?_
    obtain ⟨rv52, _, ⟨T52, L52, k52, n52⟩, -, X52, ⟨Lc52, hQ52, l52, y52, z52⟩, st52⟩ := Jvm.LawKit.callS X51 hx (y := (⟨"com/example/bourse/bourse/exchange/BoundedFileTooLongPinLaw", "at", "(Ljava/lang/String;ILjava/lang/String;I)Z"⟩ : MethodName)) ho41 (mvT hZ41 (wq hw 240 rfl)) (mvT hZ41 (wq hw 241 rfl)) (mvT hZ41 (wq hw 234 rfl)) (mvT hZ41 (wq hw 242 rfl)) (by decide) (backOf (W := 0) (lawAt l Z a0 hw [] y_1 (0 : Int32) la40 (10 : Int32) 10 10 ty_1 ky_1 (msgL p1) lb40 _ preL G1 G3 h41 n0 Z0 sv_1 (pre_s E_la40 F_value_la40 F_coder_la40 V_lb40) (by decide) (msg_il (by decide)) (by decide) (by decide) (msg_pre (by decide)) O2 P5 O4 rG3 Od) hZ41 (wq hw 242 rfl) (wq hw 234 rfl) (by decide) (by decide)) (g := (mkF m 231 #[.val (.int p1), .val (.ref x_1), .val (.ref y_1), .val (.long (p1.toInt64)), .second, .val (.int (0 : Int32)), .val (.long (p1.toInt64)), .second, .val (.int (Int32.ofNat (SBG.digits (absN p1)))), .val (.int (0 : Int32)), .val (.int (((12 : Int32) + (Int32.ofNat (SBG.digits (absN p1)))) + (6 : Int32))), .val (.ref la40), .val (.ref la41), .unset, .unset, .unset, .unset, .unset, .unset] [(.int (10 : Int32)), (.ref la40), (.int (0 : Int32)), (.ref y_1)])) rfl (by rw [hml]; rfl) (argsL := [(.ref y_1), (.int (0 : Int32)), (.ref la40), (.int (10 : Int32))]) (rest := []) (lenOf pd_30 rfl) rfl (by show 2 * 0 + _ ≤ _; exact Nat.le_of_eq rfl) (hb hby at_231) (fun _ _ => ⟨rfl, e51, (by decide : 15 + 0 ≤ _), (by decide : 3040 + 0 ≤ _)⟩)
    dsimp only [Pt.U, Pt.locs, Pt.cells, Pt.slots] at X52 l52 y52 z52 st52 hQ52
    have X52 := own_reb X52 l52 y52 z52
    obtain ⟨rfl, N52q, e52⟩ := hQ52
    have N52 := Fr.app N51 N52q
    refine GlW.pre (B := T52.setTop (mkF m 243 #[.val (.int p1), .val (.ref x_1), .val (.ref y_1), .val (.long (p1.toInt64)), .second, .val (.int (0 : Int32)), .val (.long (p1.toInt64)), .second, .val (.int (Int32.ofNat (SBG.digits (absN p1)))), .val (.int (0 : Int32)), .val (.int (((12 : Int32) + (Int32.ofNat (SBG.digits (absN p1)))) + (6 : Int32))), .val (.ref la40), .val (.ref la41), .unset, .unset, .unset, .unset, .unset, .unset] [(.int (11 : Int32)), (.ref la40), (.int (0 : Int32)), (.ref y_1)])) (fun _ k => st52 _ (XS.ifNo X52.here hx rfl (hb hby at_234) rfl ((if0 _ _).trans (feq (by decide : ¬ ((1 : Int32) = (0 : Int32)))).1) (XS.aloadN X52.here hx rfl (hb hby at_237) rfl rfl (XS.iconst X52.here hx rfl (hb hby at_238) (XS.aload X52.here hx rfl (hb hby at_239) rfl rfl (XS.bipush X52.here hx rfl (hb hby at_241) k)))))) ?_
    obtain ⟨rv53, _, ⟨T53, L53, k53, n53⟩, -, X53, ⟨Lc53, hQ53, l53, y53, z53⟩, st53⟩ := Jvm.LawKit.callS X52 hx (y := (⟨"com/example/bourse/bourse/exchange/BoundedFileTooLongPinLaw", "at", "(Ljava/lang/String;ILjava/lang/String;I)Z"⟩ : MethodName)) ho41 (mvT hZ41 (wq hw 240 rfl)) (mvT hZ41 (wq hw 241 rfl)) (mvT hZ41 (wq hw 234 rfl)) (mvT hZ41 (wq hw 242 rfl)) (by decide) (backOf (W := 0) (lawAt l Z a0 hw [] y_1 (0 : Int32) la40 (11 : Int32) 11 11 ty_1 ky_1 (msgL p1) lb40 _ preL G1 G3 h41 n0 Z0 sv_1 (pre_s E_la40 F_value_la40 F_coder_la40 V_lb40) (by decide) (msg_il (by decide)) (by decide) (by decide) (msg_pre (by decide)) O2 P5 O4 rG3 Od) hZ41 (wq hw 242 rfl) (wq hw 234 rfl) (by decide) (by decide)) (g := (mkF m 243 #[.val (.int p1), .val (.ref x_1), .val (.ref y_1), .val (.long (p1.toInt64)), .second, .val (.int (0 : Int32)), .val (.long (p1.toInt64)), .second, .val (.int (Int32.ofNat (SBG.digits (absN p1)))), .val (.int (0 : Int32)), .val (.int (((12 : Int32) + (Int32.ofNat (SBG.digits (absN p1)))) + (6 : Int32))), .val (.ref la40), .val (.ref la41), .unset, .unset, .unset, .unset, .unset, .unset] [(.int (11 : Int32)), (.ref la40), (.int (0 : Int32)), (.ref y_1)])) rfl (by rw [hml]; rfl) (argsL := [(.ref y_1), (.int (0 : Int32)), (.ref la40), (.int (11 : Int32))]) (rest := []) (lenOf pd_30 rfl) rfl (by show 2 * 0 + _ ≤ _; exact Nat.le_of_eq rfl) (hb hby at_243) (fun _ _ => ⟨rfl, e52, (by decide : 15 + 0 ≤ _), (by decide : 3040 + 0 ≤ _)⟩)
    dsimp only [Pt.U, Pt.locs, Pt.cells, Pt.slots] at X53 l53 y53 z53 st53 hQ53
    have X53 := own_reb X53 l53 y53 z53
    obtain ⟨rfl, N53q, e53⟩ := hQ53
    have N53 := Fr.app N52 N53q
    refine GlW.pre (B := T53.setTop (mkF m 273 #[.val (.int p1), .val (.ref x_1), .val (.ref y_1), .val (.long (p1.toInt64)), .second, .val (.int (0 : Int32)), .val (.long (p1.toInt64)), .second, .val (.int (Int32.ofNat (SBG.digits (absN p1)))), .val (.int (0 : Int32)), .val (.int (((12 : Int32) + (Int32.ofNat (SBG.digits (absN p1)))) + (6 : Int32))), .val (.ref la40), .val (.ref la41), .val (.int (1 : Int32)), .unset, .unset, .unset, .unset, .unset] [(.int (1 : Int32))])) (fun _ k => st53 _ (XS.ifNo X53.here hx rfl (hb hby at_246) rfl ((if0 _ _).trans (feq (by decide : ¬ ((1 : Int32) = (0 : Int32)))).1) (XS.iconst X53.here hx rfl (hb hby at_249) (XS.goto X53.here hx rfl (pc0 := 250) (pc' := 254) rfl (hb hby at_250) (by decide) (by decide) (XS.istore X53.here hx rfl (hb hby at_254) rfl (l' := #[.val (.int p1), .val (.ref x_1), .val (.ref y_1), .val (.long (p1.toInt64)), .second, .val (.int (0 : Int32)), .val (.long (p1.toInt64)), .second, .val (.int (Int32.ofNat (SBG.digits (absN p1)))), .val (.int (0 : Int32)), .val (.int (((12 : Int32) + (Int32.ofNat (SBG.digits (absN p1)))) + (6 : Int32))), .val (.ref la40), .val (.ref la41), .val (.int (1 : Int32)), .unset, .unset, .unset, .unset, .unset]) rfl (XS.iload X53.here hx rfl (hb hby at_256) rfl (XS.ifYes X53.here hx rfl (pc0 := 258) (pc' := 272) rfl (hb hby at_258) rfl ((if0 _ _).trans (teq (by decide : (0 : Int32) = (0 : Int32))).1) (by decide) (by decide) (XS.iconst X53.here hx rfl (hb hby at_272) k)))))))) ?_
    refine GlW.pre (B := T53.setTop (mkF m 284 #[.val (.int p1), .val (.ref x_1), .val (.ref y_1), .val (.long (p1.toInt64)), .second, .val (.int (0 : Int32)), .val (.long (p1.toInt64)), .second, .val (.int (Int32.ofNat (SBG.digits (absN p1)))), .val (.int (0 : Int32)), .val (.int (((12 : Int32) + (Int32.ofNat (SBG.digits (absN p1)))) + (6 : Int32))), .val (.ref la40), .val (.ref la41), .val (.int (1 : Int32)), .val (.int (1 : Int32)), .unset, .unset, .unset, .unset] [(.int ((12 : Int32) + (0 : Int32)))])) (fun _ k => XS.goto X53.here hx rfl (pc0 := 273) (pc' := 277) rfl (hb hby at_273) (by decide) (by decide) (XS.istore X53.here hx rfl (hb hby at_277) rfl (l' := #[.val (.int p1), .val (.ref x_1), .val (.ref y_1), .val (.long (p1.toInt64)), .second, .val (.int (0 : Int32)), .val (.long (p1.toInt64)), .second, .val (.int (Int32.ofNat (SBG.digits (absN p1)))), .val (.int (0 : Int32)), .val (.int (((12 : Int32) + (Int32.ofNat (SBG.digits (absN p1)))) + (6 : Int32))), .val (.ref la40), .val (.ref la41), .val (.int (1 : Int32)), .val (.int (1 : Int32)), .unset, .unset, .unset, .unset]) rfl (XS.bipush X53.here hx rfl (hb hby at_279) (XS.iload X53.here hx rfl (hb hby at_281) rfl (XS.iadd X53.here hx rfl (hb hby at_283) rfl k))))) ?_
    rw [show ((12 : Int32) + (0 : Int32)) = (12 : Int32) from by decide]
    refine GlW.pre (B := T53.setTop (mkF m 294 #[.val (.int p1), .val (.ref x_1), .val (.ref y_1), .val (.long (p1.toInt64)), .second, .val (.int (0 : Int32)), .val (.long (p1.toInt64)), .second, .val (.int (Int32.ofNat (SBG.digits (absN p1)))), .val (.int (0 : Int32)), .val (.int (((12 : Int32) + (Int32.ofNat (SBG.digits (absN p1)))) + (6 : Int32))), .val (.ref la40), .val (.ref la41), .val (.int (1 : Int32)), .val (.int (1 : Int32)), .val (.int (12 : Int32)), .unset, .unset, .unset] [(.int (0 : Int32)), (.long (p1.toInt64)), (.int (Int32.ofNat (SBG.digits (absN p1)))), (.int (12 : Int32)), (.ref y_1)])) (fun _ k => XS.istore X53.here hx rfl (hb hby at_284) rfl (l' := #[.val (.int p1), .val (.ref x_1), .val (.ref y_1), .val (.long (p1.toInt64)), .second, .val (.int (0 : Int32)), .val (.long (p1.toInt64)), .second, .val (.int (Int32.ofNat (SBG.digits (absN p1)))), .val (.int (0 : Int32)), .val (.int (((12 : Int32) + (Int32.ofNat (SBG.digits (absN p1)))) + (6 : Int32))), .val (.ref la40), .val (.ref la41), .val (.int (1 : Int32)), .val (.int (1 : Int32)), .val (.int (12 : Int32)), .unset, .unset, .unset]) rfl (XS.aloadN X53.here hx rfl (hb hby at_286) rfl rfl (XS.iload X53.here hx rfl (hb hby at_287) rfl (XS.iload X53.here hx rfl (hb hby at_289) rfl (XS.lload X53.here hx rfl (hb hby at_291) rfl (XS.iconst X53.here hx rfl (hb hby at_293) k)))))) ?_
    obtain ⟨rv54, _, ⟨T54, L54, k54, n54⟩, -, X54, ⟨Lc54, hQ54, l54, y54, z54⟩, st54⟩ := Jvm.LawKit.callS X53 hx (y := (⟨"com/example/bourse/bourse/exchange/BoundedFileTooLongPinLaw", "d", "(Ljava/lang/String;IIJI)Z"⟩ : MethodName)) ho41 (mvT hZ41 (wq hw 265 rfl)) (mvT hZ41 (wq hw 266 rfl)) (mvT hZ41 (wq hw 234 rfl)) (mvT hZ41 (wq hw 267 rfl)) (by decide) (backOf (W := 0) (lawD l Z a0 hw [] y_1 (12 : Int32) (Int32.ofNat (SBG.digits (absN p1))) (p1.toInt64) (0 : Int32) 0 12 (dgN p1) (absN p1) ty_1 ky_1 (msgL p1) G1 G3 h41 n0 Z0 sv_1 (by decide) rfl (own_ap hsg) (by decide) (dg_bnd p1).2 (by decide) (by decide) (abs_le p1) (msg_dl hoS) (msg_dig hoS) O2 P5 O4 rG3 Od) hZ41 (wq hw 267 rfl) (wq hw 234 rfl) (by decide) (by decide)) (g := (mkF m 294 #[.val (.int p1), .val (.ref x_1), .val (.ref y_1), .val (.long (p1.toInt64)), .second, .val (.int (0 : Int32)), .val (.long (p1.toInt64)), .second, .val (.int (Int32.ofNat (SBG.digits (absN p1)))), .val (.int (0 : Int32)), .val (.int (((12 : Int32) + (Int32.ofNat (SBG.digits (absN p1)))) + (6 : Int32))), .val (.ref la40), .val (.ref la41), .val (.int (1 : Int32)), .val (.int (1 : Int32)), .val (.int (12 : Int32)), .unset, .unset, .unset] [(.int (0 : Int32)), (.long (p1.toInt64)), (.int (Int32.ofNat (SBG.digits (absN p1)))), (.int (12 : Int32)), (.ref y_1)])) rfl (by rw [hml]; rfl) (argsL := [(.ref y_1), (.int (12 : Int32)), (.int (Int32.ofNat (SBG.digits (absN p1)))), (.long (p1.toInt64)), (.int (0 : Int32))]) (rest := []) (lenOf pd_31 rfl) rfl (by show 2 * 0 + _ ≤ _; exact Nat.le_of_eq rfl) (hb hby at_294) (fun _ _ => ⟨rfl, e53, (by decide : 15 + 0 ≤ _), (by decide : 3040 + 0 ≤ _)⟩)
    dsimp only [Pt.U, Pt.locs, Pt.cells, Pt.slots] at X54 l54 y54 z54 st54 hQ54
    have X54 := own_reb X54 l54 y54 z54
    obtain ⟨rfl, N54q, e54⟩ := hQ54
    have N54 := Fr.app N53 N54q
    refine GlW.pre (B := T54.setTop (mkF m 308 #[.val (.int p1), .val (.ref x_1), .val (.ref y_1), .val (.long (p1.toInt64)), .second, .val (.int (0 : Int32)), .val (.long (p1.toInt64)), .second, .val (.int (Int32.ofNat (SBG.digits (absN p1)))), .val (.int (0 : Int32)), .val (.int (((12 : Int32) + (Int32.ofNat (SBG.digits (absN p1)))) + (6 : Int32))), .val (.ref la40), .val (.ref la41), .val (.int (1 : Int32)), .val (.int (1 : Int32)), .val (.int (12 : Int32)), .unset, .unset, .unset] [(.int (1 : Int32)), (.long (p1.toInt64)), (.int (Int32.ofNat (SBG.digits (absN p1)))), (.int (12 : Int32)), (.ref y_1)])) (fun _ k => st54 _ (XS.ifNo X54.here hx rfl (hb hby at_297) rfl ((if0 _ _).trans (feq (by decide : ¬ ((1 : Int32) = (0 : Int32)))).1) (XS.aloadN X54.here hx rfl (hb hby at_300) rfl rfl (XS.iload X54.here hx rfl (hb hby at_301) rfl (XS.iload X54.here hx rfl (hb hby at_303) rfl (XS.lload X54.here hx rfl (hb hby at_305) rfl (XS.iconst X54.here hx rfl (hb hby at_307) k))))))) ?_
    obtain ⟨rv55, _, ⟨T55, L55, k55, n55⟩, -, X55, ⟨Lc55, hQ55, l55, y55, z55⟩, st55⟩ := Jvm.LawKit.callS X54 hx (y := (⟨"com/example/bourse/bourse/exchange/BoundedFileTooLongPinLaw", "d", "(Ljava/lang/String;IIJI)Z"⟩ : MethodName)) ho41 (mvT hZ41 (wq hw 265 rfl)) (mvT hZ41 (wq hw 266 rfl)) (mvT hZ41 (wq hw 234 rfl)) (mvT hZ41 (wq hw 267 rfl)) (by decide) (backOf (W := 0) (lawD l Z a0 hw [] y_1 (12 : Int32) (Int32.ofNat (SBG.digits (absN p1))) (p1.toInt64) (1 : Int32) 1 12 (dgN p1) (absN p1) ty_1 ky_1 (msgL p1) G1 G3 h41 n0 Z0 sv_1 (by decide) rfl (own_ap hsg) (by decide) (dg_bnd p1).2 (by decide) (by decide) (abs_le p1) (msg_dl hoS) (msg_dig hoS) O2 P5 O4 rG3 Od) hZ41 (wq hw 267 rfl) (wq hw 234 rfl) (by decide) (by decide)) (g := (mkF m 308 #[.val (.int p1), .val (.ref x_1), .val (.ref y_1), .val (.long (p1.toInt64)), .second, .val (.int (0 : Int32)), .val (.long (p1.toInt64)), .second, .val (.int (Int32.ofNat (SBG.digits (absN p1)))), .val (.int (0 : Int32)), .val (.int (((12 : Int32) + (Int32.ofNat (SBG.digits (absN p1)))) + (6 : Int32))), .val (.ref la40), .val (.ref la41), .val (.int (1 : Int32)), .val (.int (1 : Int32)), .val (.int (12 : Int32)), .unset, .unset, .unset] [(.int (1 : Int32)), (.long (p1.toInt64)), (.int (Int32.ofNat (SBG.digits (absN p1)))), (.int (12 : Int32)), (.ref y_1)])) rfl (by rw [hml]; rfl) (argsL := [(.ref y_1), (.int (12 : Int32)), (.int (Int32.ofNat (SBG.digits (absN p1)))), (.long (p1.toInt64)), (.int (1 : Int32))]) (rest := []) (lenOf pd_31 rfl) rfl (by show 2 * 0 + _ ≤ _; exact Nat.le_of_eq rfl) (hb hby at_308) (fun _ _ => ⟨rfl, e54, (by decide : 15 + 0 ≤ _), (by decide : 3040 + 0 ≤ _)⟩)
    dsimp only [Pt.U, Pt.locs, Pt.cells, Pt.slots] at X55 l55 y55 z55 st55 hQ55
    have X55 := own_reb X55 l55 y55 z55
    obtain ⟨rfl, N55q, e55⟩ := hQ55
    have N55 := Fr.app N54 N55q
    refine GlW.pre (B := T55.setTop (mkF m 322 #[.val (.int p1), .val (.ref x_1), .val (.ref y_1), .val (.long (p1.toInt64)), .second, .val (.int (0 : Int32)), .val (.long (p1.toInt64)), .second, .val (.int (Int32.ofNat (SBG.digits (absN p1)))), .val (.int (0 : Int32)), .val (.int (((12 : Int32) + (Int32.ofNat (SBG.digits (absN p1)))) + (6 : Int32))), .val (.ref la40), .val (.ref la41), .val (.int (1 : Int32)), .val (.int (1 : Int32)), .val (.int (12 : Int32)), .unset, .unset, .unset] [(.int (2 : Int32)), (.long (p1.toInt64)), (.int (Int32.ofNat (SBG.digits (absN p1)))), (.int (12 : Int32)), (.ref y_1)])) (fun _ k => st55 _ (XS.ifNo X55.here hx rfl (hb hby at_311) rfl ((if0 _ _).trans (feq (by decide : ¬ ((1 : Int32) = (0 : Int32)))).1) (XS.aloadN X55.here hx rfl (hb hby at_314) rfl rfl (XS.iload X55.here hx rfl (hb hby at_315) rfl (XS.iload X55.here hx rfl (hb hby at_317) rfl (XS.lload X55.here hx rfl (hb hby at_319) rfl (XS.iconst X55.here hx rfl (hb hby at_321) k))))))) ?_
    obtain ⟨rv56, _, ⟨T56, L56, k56, n56⟩, -, X56, ⟨Lc56, hQ56, l56, y56, z56⟩, st56⟩ := Jvm.LawKit.callS X55 hx (y := (⟨"com/example/bourse/bourse/exchange/BoundedFileTooLongPinLaw", "d", "(Ljava/lang/String;IIJI)Z"⟩ : MethodName)) ho41 (mvT hZ41 (wq hw 265 rfl)) (mvT hZ41 (wq hw 266 rfl)) (mvT hZ41 (wq hw 234 rfl)) (mvT hZ41 (wq hw 267 rfl)) (by decide) (backOf (W := 0) (lawD l Z a0 hw [] y_1 (12 : Int32) (Int32.ofNat (SBG.digits (absN p1))) (p1.toInt64) (2 : Int32) 2 12 (dgN p1) (absN p1) ty_1 ky_1 (msgL p1) G1 G3 h41 n0 Z0 sv_1 (by decide) rfl (own_ap hsg) (by decide) (dg_bnd p1).2 (by decide) (by decide) (abs_le p1) (msg_dl hoS) (msg_dig hoS) O2 P5 O4 rG3 Od) hZ41 (wq hw 267 rfl) (wq hw 234 rfl) (by decide) (by decide)) (g := (mkF m 322 #[.val (.int p1), .val (.ref x_1), .val (.ref y_1), .val (.long (p1.toInt64)), .second, .val (.int (0 : Int32)), .val (.long (p1.toInt64)), .second, .val (.int (Int32.ofNat (SBG.digits (absN p1)))), .val (.int (0 : Int32)), .val (.int (((12 : Int32) + (Int32.ofNat (SBG.digits (absN p1)))) + (6 : Int32))), .val (.ref la40), .val (.ref la41), .val (.int (1 : Int32)), .val (.int (1 : Int32)), .val (.int (12 : Int32)), .unset, .unset, .unset] [(.int (2 : Int32)), (.long (p1.toInt64)), (.int (Int32.ofNat (SBG.digits (absN p1)))), (.int (12 : Int32)), (.ref y_1)])) rfl (by rw [hml]; rfl) (argsL := [(.ref y_1), (.int (12 : Int32)), (.int (Int32.ofNat (SBG.digits (absN p1)))), (.long (p1.toInt64)), (.int (2 : Int32))]) (rest := []) (lenOf pd_31 rfl) rfl (by show 2 * 0 + _ ≤ _; exact Nat.le_of_eq rfl) (hb hby at_322) (fun _ _ => ⟨rfl, e55, (by decide : 15 + 0 ≤ _), (by decide : 3040 + 0 ≤ _)⟩)
    dsimp only [Pt.U, Pt.locs, Pt.cells, Pt.slots] at X56 l56 y56 z56 st56 hQ56
    have X56 := own_reb X56 l56 y56 z56
    obtain ⟨rfl, N56q, e56⟩ := hQ56
    have N56 := Fr.app N55 N56q
    refine GlW.pre (B := T56.setTop (mkF m 336 #[.val (.int p1), .val (.ref x_1), .val (.ref y_1), .val (.long (p1.toInt64)), .second, .val (.int (0 : Int32)), .val (.long (p1.toInt64)), .second, .val (.int (Int32.ofNat (SBG.digits (absN p1)))), .val (.int (0 : Int32)), .val (.int (((12 : Int32) + (Int32.ofNat (SBG.digits (absN p1)))) + (6 : Int32))), .val (.ref la40), .val (.ref la41), .val (.int (1 : Int32)), .val (.int (1 : Int32)), .val (.int (12 : Int32)), .unset, .unset, .unset] [(.int (3 : Int32)), (.long (p1.toInt64)), (.int (Int32.ofNat (SBG.digits (absN p1)))), (.int (12 : Int32)), (.ref y_1)])) (fun _ k => st56 _ (XS.ifNo X56.here hx rfl (hb hby at_325) rfl ((if0 _ _).trans (feq (by decide : ¬ ((1 : Int32) = (0 : Int32)))).1) (XS.aloadN X56.here hx rfl (hb hby at_328) rfl rfl (XS.iload X56.here hx rfl (hb hby at_329) rfl (XS.iload X56.here hx rfl (hb hby at_331) rfl (XS.lload X56.here hx rfl (hb hby at_333) rfl (XS.iconst X56.here hx rfl (hb hby at_335) k))))))) ?_
    obtain ⟨rv57, _, ⟨T57, L57, k57, n57⟩, -, X57, ⟨Lc57, hQ57, l57, y57, z57⟩, st57⟩ := Jvm.LawKit.callS X56 hx (y := (⟨"com/example/bourse/bourse/exchange/BoundedFileTooLongPinLaw", "d", "(Ljava/lang/String;IIJI)Z"⟩ : MethodName)) ho41 (mvT hZ41 (wq hw 265 rfl)) (mvT hZ41 (wq hw 266 rfl)) (mvT hZ41 (wq hw 234 rfl)) (mvT hZ41 (wq hw 267 rfl)) (by decide) (backOf (W := 0) (lawD l Z a0 hw [] y_1 (12 : Int32) (Int32.ofNat (SBG.digits (absN p1))) (p1.toInt64) (3 : Int32) 3 12 (dgN p1) (absN p1) ty_1 ky_1 (msgL p1) G1 G3 h41 n0 Z0 sv_1 (by decide) rfl (own_ap hsg) (by decide) (dg_bnd p1).2 (by decide) (by decide) (abs_le p1) (msg_dl hoS) (msg_dig hoS) O2 P5 O4 rG3 Od) hZ41 (wq hw 267 rfl) (wq hw 234 rfl) (by decide) (by decide)) (g := (mkF m 336 #[.val (.int p1), .val (.ref x_1), .val (.ref y_1), .val (.long (p1.toInt64)), .second, .val (.int (0 : Int32)), .val (.long (p1.toInt64)), .second, .val (.int (Int32.ofNat (SBG.digits (absN p1)))), .val (.int (0 : Int32)), .val (.int (((12 : Int32) + (Int32.ofNat (SBG.digits (absN p1)))) + (6 : Int32))), .val (.ref la40), .val (.ref la41), .val (.int (1 : Int32)), .val (.int (1 : Int32)), .val (.int (12 : Int32)), .unset, .unset, .unset] [(.int (3 : Int32)), (.long (p1.toInt64)), (.int (Int32.ofNat (SBG.digits (absN p1)))), (.int (12 : Int32)), (.ref y_1)])) rfl (by rw [hml]; rfl) (argsL := [(.ref y_1), (.int (12 : Int32)), (.int (Int32.ofNat (SBG.digits (absN p1)))), (.long (p1.toInt64)), (.int (3 : Int32))]) (rest := []) (lenOf pd_31 rfl) rfl (by show 2 * 0 + _ ≤ _; exact Nat.le_of_eq rfl) (hb hby at_336) (fun _ _ => ⟨rfl, e56, (by decide : 15 + 0 ≤ _), (by decide : 3040 + 0 ≤ _)⟩)
    dsimp only [Pt.U, Pt.locs, Pt.cells, Pt.slots] at X57 l57 y57 z57 st57 hQ57
    have X57 := own_reb X57 l57 y57 z57
    obtain ⟨rfl, N57q, e57⟩ := hQ57
    have N57 := Fr.app N56 N57q
    refine GlW.pre (B := T57.setTop (mkF m 350 #[.val (.int p1), .val (.ref x_1), .val (.ref y_1), .val (.long (p1.toInt64)), .second, .val (.int (0 : Int32)), .val (.long (p1.toInt64)), .second, .val (.int (Int32.ofNat (SBG.digits (absN p1)))), .val (.int (0 : Int32)), .val (.int (((12 : Int32) + (Int32.ofNat (SBG.digits (absN p1)))) + (6 : Int32))), .val (.ref la40), .val (.ref la41), .val (.int (1 : Int32)), .val (.int (1 : Int32)), .val (.int (12 : Int32)), .unset, .unset, .unset] [(.int (4 : Int32)), (.long (p1.toInt64)), (.int (Int32.ofNat (SBG.digits (absN p1)))), (.int (12 : Int32)), (.ref y_1)])) (fun _ k => st57 _ (XS.ifNo X57.here hx rfl (hb hby at_339) rfl ((if0 _ _).trans (feq (by decide : ¬ ((1 : Int32) = (0 : Int32)))).1) (XS.aloadN X57.here hx rfl (hb hby at_342) rfl rfl (XS.iload X57.here hx rfl (hb hby at_343) rfl (XS.iload X57.here hx rfl (hb hby at_345) rfl (XS.lload X57.here hx rfl (hb hby at_347) rfl (XS.iconst X57.here hx rfl (hb hby at_349) k))))))) ?_
    obtain ⟨rv58, _, ⟨T58, L58, k58, n58⟩, -, X58, ⟨Lc58, hQ58, l58, y58, z58⟩, st58⟩ := Jvm.LawKit.callS X57 hx (y := (⟨"com/example/bourse/bourse/exchange/BoundedFileTooLongPinLaw", "d", "(Ljava/lang/String;IIJI)Z"⟩ : MethodName)) ho41 (mvT hZ41 (wq hw 265 rfl)) (mvT hZ41 (wq hw 266 rfl)) (mvT hZ41 (wq hw 234 rfl)) (mvT hZ41 (wq hw 267 rfl)) (by decide) (backOf (W := 0) (lawD l Z a0 hw [] y_1 (12 : Int32) (Int32.ofNat (SBG.digits (absN p1))) (p1.toInt64) (4 : Int32) 4 12 (dgN p1) (absN p1) ty_1 ky_1 (msgL p1) G1 G3 h41 n0 Z0 sv_1 (by decide) rfl (own_ap hsg) (by decide) (dg_bnd p1).2 (by decide) (by decide) (abs_le p1) (msg_dl hoS) (msg_dig hoS) O2 P5 O4 rG3 Od) hZ41 (wq hw 267 rfl) (wq hw 234 rfl) (by decide) (by decide)) (g := (mkF m 350 #[.val (.int p1), .val (.ref x_1), .val (.ref y_1), .val (.long (p1.toInt64)), .second, .val (.int (0 : Int32)), .val (.long (p1.toInt64)), .second, .val (.int (Int32.ofNat (SBG.digits (absN p1)))), .val (.int (0 : Int32)), .val (.int (((12 : Int32) + (Int32.ofNat (SBG.digits (absN p1)))) + (6 : Int32))), .val (.ref la40), .val (.ref la41), .val (.int (1 : Int32)), .val (.int (1 : Int32)), .val (.int (12 : Int32)), .unset, .unset, .unset] [(.int (4 : Int32)), (.long (p1.toInt64)), (.int (Int32.ofNat (SBG.digits (absN p1)))), (.int (12 : Int32)), (.ref y_1)])) rfl (by rw [hml]; rfl) (argsL := [(.ref y_1), (.int (12 : Int32)), (.int (Int32.ofNat (SBG.digits (absN p1)))), (.long (p1.toInt64)), (.int (4 : Int32))]) (rest := []) (lenOf pd_31 rfl) rfl (by show 2 * 0 + _ ≤ _; exact Nat.le_of_eq rfl) (hb hby at_350) (fun _ _ => ⟨rfl, e57, (by decide : 15 + 0 ≤ _), (by decide : 3040 + 0 ≤ _)⟩)
    dsimp only [Pt.U, Pt.locs, Pt.cells, Pt.slots] at X58 l58 y58 z58 st58 hQ58
    have X58 := own_reb X58 l58 y58 z58
    obtain ⟨rfl, N58q, e58⟩ := hQ58
    have N58 := Fr.app N57 N58q
    refine GlW.pre (B := T58.setTop (mkF m 364 #[.val (.int p1), .val (.ref x_1), .val (.ref y_1), .val (.long (p1.toInt64)), .second, .val (.int (0 : Int32)), .val (.long (p1.toInt64)), .second, .val (.int (Int32.ofNat (SBG.digits (absN p1)))), .val (.int (0 : Int32)), .val (.int (((12 : Int32) + (Int32.ofNat (SBG.digits (absN p1)))) + (6 : Int32))), .val (.ref la40), .val (.ref la41), .val (.int (1 : Int32)), .val (.int (1 : Int32)), .val (.int (12 : Int32)), .unset, .unset, .unset] [(.int (5 : Int32)), (.long (p1.toInt64)), (.int (Int32.ofNat (SBG.digits (absN p1)))), (.int (12 : Int32)), (.ref y_1)])) (fun _ k => st58 _ (XS.ifNo X58.here hx rfl (hb hby at_353) rfl ((if0 _ _).trans (feq (by decide : ¬ ((1 : Int32) = (0 : Int32)))).1) (XS.aloadN X58.here hx rfl (hb hby at_356) rfl rfl (XS.iload X58.here hx rfl (hb hby at_357) rfl (XS.iload X58.here hx rfl (hb hby at_359) rfl (XS.lload X58.here hx rfl (hb hby at_361) rfl (XS.iconst X58.here hx rfl (hb hby at_363) k))))))) ?_
    obtain ⟨rv59, _, ⟨T59, L59, k59, n59⟩, -, X59, ⟨Lc59, hQ59, l59, y59, z59⟩, st59⟩ := Jvm.LawKit.callS X58 hx (y := (⟨"com/example/bourse/bourse/exchange/BoundedFileTooLongPinLaw", "d", "(Ljava/lang/String;IIJI)Z"⟩ : MethodName)) ho41 (mvT hZ41 (wq hw 265 rfl)) (mvT hZ41 (wq hw 266 rfl)) (mvT hZ41 (wq hw 234 rfl)) (mvT hZ41 (wq hw 267 rfl)) (by decide) (backOf (W := 0) (lawD l Z a0 hw [] y_1 (12 : Int32) (Int32.ofNat (SBG.digits (absN p1))) (p1.toInt64) (5 : Int32) 5 12 (dgN p1) (absN p1) ty_1 ky_1 (msgL p1) G1 G3 h41 n0 Z0 sv_1 (by decide) rfl (own_ap hsg) (by decide) (dg_bnd p1).2 (by decide) (by decide) (abs_le p1) (msg_dl hoS) (msg_dig hoS) O2 P5 O4 rG3 Od) hZ41 (wq hw 267 rfl) (wq hw 234 rfl) (by decide) (by decide)) (g := (mkF m 364 #[.val (.int p1), .val (.ref x_1), .val (.ref y_1), .val (.long (p1.toInt64)), .second, .val (.int (0 : Int32)), .val (.long (p1.toInt64)), .second, .val (.int (Int32.ofNat (SBG.digits (absN p1)))), .val (.int (0 : Int32)), .val (.int (((12 : Int32) + (Int32.ofNat (SBG.digits (absN p1)))) + (6 : Int32))), .val (.ref la40), .val (.ref la41), .val (.int (1 : Int32)), .val (.int (1 : Int32)), .val (.int (12 : Int32)), .unset, .unset, .unset] [(.int (5 : Int32)), (.long (p1.toInt64)), (.int (Int32.ofNat (SBG.digits (absN p1)))), (.int (12 : Int32)), (.ref y_1)])) rfl (by rw [hml]; rfl) (argsL := [(.ref y_1), (.int (12 : Int32)), (.int (Int32.ofNat (SBG.digits (absN p1)))), (.long (p1.toInt64)), (.int (5 : Int32))]) (rest := []) (lenOf pd_31 rfl) rfl (by show 2 * 0 + _ ≤ _; exact Nat.le_of_eq rfl) (hb hby at_364) (fun _ _ => ⟨rfl, e58, (by decide : 15 + 0 ≤ _), (by decide : 3040 + 0 ≤ _)⟩)
    dsimp only [Pt.U, Pt.locs, Pt.cells, Pt.slots] at X59 l59 y59 z59 st59 hQ59
    have X59 := own_reb X59 l59 y59 z59
    obtain ⟨rfl, N59q, e59⟩ := hQ59
    have N59 := Fr.app N58 N59q
    refine GlW.pre (B := T59.setTop (mkF m 379 #[.val (.int p1), .val (.ref x_1), .val (.ref y_1), .val (.long (p1.toInt64)), .second, .val (.int (0 : Int32)), .val (.long (p1.toInt64)), .second, .val (.int (Int32.ofNat (SBG.digits (absN p1)))), .val (.int (0 : Int32)), .val (.int (((12 : Int32) + (Int32.ofNat (SBG.digits (absN p1)))) + (6 : Int32))), .val (.ref la40), .val (.ref la41), .val (.int (1 : Int32)), .val (.int (1 : Int32)), .val (.int (12 : Int32)), .unset, .unset, .unset] [(.int (6 : Int32)), (.long (p1.toInt64)), (.int (Int32.ofNat (SBG.digits (absN p1)))), (.int (12 : Int32)), (.ref y_1)])) (fun _ k => st59 _ (XS.ifNo X59.here hx rfl (hb hby at_367) rfl ((if0 _ _).trans (feq (by decide : ¬ ((1 : Int32) = (0 : Int32)))).1) (XS.aloadN X59.here hx rfl (hb hby at_370) rfl rfl (XS.iload X59.here hx rfl (hb hby at_371) rfl (XS.iload X59.here hx rfl (hb hby at_373) rfl (XS.lload X59.here hx rfl (hb hby at_375) rfl (XS.bipush X59.here hx rfl (hb hby at_377) k))))))) ?_
    obtain ⟨rv60, _, ⟨T60, L60, k60, n60⟩, -, X60, ⟨Lc60, hQ60, l60, y60, z60⟩, st60⟩ := Jvm.LawKit.callS X59 hx (y := (⟨"com/example/bourse/bourse/exchange/BoundedFileTooLongPinLaw", "d", "(Ljava/lang/String;IIJI)Z"⟩ : MethodName)) ho41 (mvT hZ41 (wq hw 265 rfl)) (mvT hZ41 (wq hw 266 rfl)) (mvT hZ41 (wq hw 234 rfl)) (mvT hZ41 (wq hw 267 rfl)) (by decide) (backOf (W := 0) (lawD l Z a0 hw [] y_1 (12 : Int32) (Int32.ofNat (SBG.digits (absN p1))) (p1.toInt64) (6 : Int32) 6 12 (dgN p1) (absN p1) ty_1 ky_1 (msgL p1) G1 G3 h41 n0 Z0 sv_1 (by decide) rfl (own_ap hsg) (by decide) (dg_bnd p1).2 (by decide) (by decide) (abs_le p1) (msg_dl hoS) (msg_dig hoS) O2 P5 O4 rG3 Od) hZ41 (wq hw 267 rfl) (wq hw 234 rfl) (by decide) (by decide)) (g := (mkF m 379 #[.val (.int p1), .val (.ref x_1), .val (.ref y_1), .val (.long (p1.toInt64)), .second, .val (.int (0 : Int32)), .val (.long (p1.toInt64)), .second, .val (.int (Int32.ofNat (SBG.digits (absN p1)))), .val (.int (0 : Int32)), .val (.int (((12 : Int32) + (Int32.ofNat (SBG.digits (absN p1)))) + (6 : Int32))), .val (.ref la40), .val (.ref la41), .val (.int (1 : Int32)), .val (.int (1 : Int32)), .val (.int (12 : Int32)), .unset, .unset, .unset] [(.int (6 : Int32)), (.long (p1.toInt64)), (.int (Int32.ofNat (SBG.digits (absN p1)))), (.int (12 : Int32)), (.ref y_1)])) rfl (by rw [hml]; rfl) (argsL := [(.ref y_1), (.int (12 : Int32)), (.int (Int32.ofNat (SBG.digits (absN p1)))), (.long (p1.toInt64)), (.int (6 : Int32))]) (rest := []) (lenOf pd_31 rfl) rfl (by show 2 * 0 + _ ≤ _; exact Nat.le_of_eq rfl) (hb hby at_379) (fun _ _ => ⟨rfl, e59, (by decide : 15 + 0 ≤ _), (by decide : 3040 + 0 ≤ _)⟩)
    dsimp only [Pt.U, Pt.locs, Pt.cells, Pt.slots] at X60 l60 y60 z60 st60 hQ60
    have X60 := own_reb X60 l60 y60 z60
    obtain ⟨rfl, N60q, e60⟩ := hQ60
    have N60 := Fr.app N59 N60q
    refine GlW.pre (B := T60.setTop (mkF m 394 #[.val (.int p1), .val (.ref x_1), .val (.ref y_1), .val (.long (p1.toInt64)), .second, .val (.int (0 : Int32)), .val (.long (p1.toInt64)), .second, .val (.int (Int32.ofNat (SBG.digits (absN p1)))), .val (.int (0 : Int32)), .val (.int (((12 : Int32) + (Int32.ofNat (SBG.digits (absN p1)))) + (6 : Int32))), .val (.ref la40), .val (.ref la41), .val (.int (1 : Int32)), .val (.int (1 : Int32)), .val (.int (12 : Int32)), .unset, .unset, .unset] [(.int (7 : Int32)), (.long (p1.toInt64)), (.int (Int32.ofNat (SBG.digits (absN p1)))), (.int (12 : Int32)), (.ref y_1)])) (fun _ k => st60 _ (XS.ifNo X60.here hx rfl (hb hby at_382) rfl ((if0 _ _).trans (feq (by decide : ¬ ((1 : Int32) = (0 : Int32)))).1) (XS.aloadN X60.here hx rfl (hb hby at_385) rfl rfl (XS.iload X60.here hx rfl (hb hby at_386) rfl (XS.iload X60.here hx rfl (hb hby at_388) rfl (XS.lload X60.here hx rfl (hb hby at_390) rfl (XS.bipush X60.here hx rfl (hb hby at_392) k))))))) ?_
    obtain ⟨rv61, _, ⟨T61, L61, k61, n61⟩, -, X61, ⟨Lc61, hQ61, l61, y61, z61⟩, st61⟩ := Jvm.LawKit.callS X60 hx (y := (⟨"com/example/bourse/bourse/exchange/BoundedFileTooLongPinLaw", "d", "(Ljava/lang/String;IIJI)Z"⟩ : MethodName)) ho41 (mvT hZ41 (wq hw 265 rfl)) (mvT hZ41 (wq hw 266 rfl)) (mvT hZ41 (wq hw 234 rfl)) (mvT hZ41 (wq hw 267 rfl)) (by decide) (backOf (W := 0) (lawD l Z a0 hw [] y_1 (12 : Int32) (Int32.ofNat (SBG.digits (absN p1))) (p1.toInt64) (7 : Int32) 7 12 (dgN p1) (absN p1) ty_1 ky_1 (msgL p1) G1 G3 h41 n0 Z0 sv_1 (by decide) rfl (own_ap hsg) (by decide) (dg_bnd p1).2 (by decide) (by decide) (abs_le p1) (msg_dl hoS) (msg_dig hoS) O2 P5 O4 rG3 Od) hZ41 (wq hw 267 rfl) (wq hw 234 rfl) (by decide) (by decide)) (g := (mkF m 394 #[.val (.int p1), .val (.ref x_1), .val (.ref y_1), .val (.long (p1.toInt64)), .second, .val (.int (0 : Int32)), .val (.long (p1.toInt64)), .second, .val (.int (Int32.ofNat (SBG.digits (absN p1)))), .val (.int (0 : Int32)), .val (.int (((12 : Int32) + (Int32.ofNat (SBG.digits (absN p1)))) + (6 : Int32))), .val (.ref la40), .val (.ref la41), .val (.int (1 : Int32)), .val (.int (1 : Int32)), .val (.int (12 : Int32)), .unset, .unset, .unset] [(.int (7 : Int32)), (.long (p1.toInt64)), (.int (Int32.ofNat (SBG.digits (absN p1)))), (.int (12 : Int32)), (.ref y_1)])) rfl (by rw [hml]; rfl) (argsL := [(.ref y_1), (.int (12 : Int32)), (.int (Int32.ofNat (SBG.digits (absN p1)))), (.long (p1.toInt64)), (.int (7 : Int32))]) (rest := []) (lenOf pd_31 rfl) rfl (by show 2 * 0 + _ ≤ _; exact Nat.le_of_eq rfl) (hb hby at_394) (fun _ _ => ⟨rfl, e60, (by decide : 15 + 0 ≤ _), (by decide : 3040 + 0 ≤ _)⟩)
    dsimp only [Pt.U, Pt.locs, Pt.cells, Pt.slots] at X61 l61 y61 z61 st61 hQ61
    have X61 := own_reb X61 l61 y61 z61
    obtain ⟨rfl, N61q, e61⟩ := hQ61
    have N61 := Fr.app N60 N61q
    refine GlW.pre (B := T61.setTop (mkF m 409 #[.val (.int p1), .val (.ref x_1), .val (.ref y_1), .val (.long (p1.toInt64)), .second, .val (.int (0 : Int32)), .val (.long (p1.toInt64)), .second, .val (.int (Int32.ofNat (SBG.digits (absN p1)))), .val (.int (0 : Int32)), .val (.int (((12 : Int32) + (Int32.ofNat (SBG.digits (absN p1)))) + (6 : Int32))), .val (.ref la40), .val (.ref la41), .val (.int (1 : Int32)), .val (.int (1 : Int32)), .val (.int (12 : Int32)), .unset, .unset, .unset] [(.int (8 : Int32)), (.long (p1.toInt64)), (.int (Int32.ofNat (SBG.digits (absN p1)))), (.int (12 : Int32)), (.ref y_1)])) (fun _ k => st61 _ (XS.ifNo X61.here hx rfl (hb hby at_397) rfl ((if0 _ _).trans (feq (by decide : ¬ ((1 : Int32) = (0 : Int32)))).1) (XS.aloadN X61.here hx rfl (hb hby at_400) rfl rfl (XS.iload X61.here hx rfl (hb hby at_401) rfl (XS.iload X61.here hx rfl (hb hby at_403) rfl (XS.lload X61.here hx rfl (hb hby at_405) rfl (XS.bipush X61.here hx rfl (hb hby at_407) k))))))) ?_
    obtain ⟨rv62, _, ⟨T62, L62, k62, n62⟩, -, X62, ⟨Lc62, hQ62, l62, y62, z62⟩, st62⟩ := Jvm.LawKit.callS X61 hx (y := (⟨"com/example/bourse/bourse/exchange/BoundedFileTooLongPinLaw", "d", "(Ljava/lang/String;IIJI)Z"⟩ : MethodName)) ho41 (mvT hZ41 (wq hw 265 rfl)) (mvT hZ41 (wq hw 266 rfl)) (mvT hZ41 (wq hw 234 rfl)) (mvT hZ41 (wq hw 267 rfl)) (by decide) (backOf (W := 0) (lawD l Z a0 hw [] y_1 (12 : Int32) (Int32.ofNat (SBG.digits (absN p1))) (p1.toInt64) (8 : Int32) 8 12 (dgN p1) (absN p1) ty_1 ky_1 (msgL p1) G1 G3 h41 n0 Z0 sv_1 (by decide) rfl (own_ap hsg) (by decide) (dg_bnd p1).2 (by decide) (by decide) (abs_le p1) (msg_dl hoS) (msg_dig hoS) O2 P5 O4 rG3 Od) hZ41 (wq hw 267 rfl) (wq hw 234 rfl) (by decide) (by decide)) (g := (mkF m 409 #[.val (.int p1), .val (.ref x_1), .val (.ref y_1), .val (.long (p1.toInt64)), .second, .val (.int (0 : Int32)), .val (.long (p1.toInt64)), .second, .val (.int (Int32.ofNat (SBG.digits (absN p1)))), .val (.int (0 : Int32)), .val (.int (((12 : Int32) + (Int32.ofNat (SBG.digits (absN p1)))) + (6 : Int32))), .val (.ref la40), .val (.ref la41), .val (.int (1 : Int32)), .val (.int (1 : Int32)), .val (.int (12 : Int32)), .unset, .unset, .unset] [(.int (8 : Int32)), (.long (p1.toInt64)), (.int (Int32.ofNat (SBG.digits (absN p1)))), (.int (12 : Int32)), (.ref y_1)])) rfl (by rw [hml]; rfl) (argsL := [(.ref y_1), (.int (12 : Int32)), (.int (Int32.ofNat (SBG.digits (absN p1)))), (.long (p1.toInt64)), (.int (8 : Int32))]) (rest := []) (lenOf pd_31 rfl) rfl (by show 2 * 0 + _ ≤ _; exact Nat.le_of_eq rfl) (hb hby at_409) (fun _ _ => ⟨rfl, e61, (by decide : 15 + 0 ≤ _), (by decide : 3040 + 0 ≤ _)⟩)
    dsimp only [Pt.U, Pt.locs, Pt.cells, Pt.slots] at X62 l62 y62 z62 st62 hQ62
    have X62 := own_reb X62 l62 y62 z62
    obtain ⟨rfl, N62q, e62⟩ := hQ62
    have N62 := Fr.app N61 N62q
    refine GlW.pre (B := T62.setTop (mkF m 424 #[.val (.int p1), .val (.ref x_1), .val (.ref y_1), .val (.long (p1.toInt64)), .second, .val (.int (0 : Int32)), .val (.long (p1.toInt64)), .second, .val (.int (Int32.ofNat (SBG.digits (absN p1)))), .val (.int (0 : Int32)), .val (.int (((12 : Int32) + (Int32.ofNat (SBG.digits (absN p1)))) + (6 : Int32))), .val (.ref la40), .val (.ref la41), .val (.int (1 : Int32)), .val (.int (1 : Int32)), .val (.int (12 : Int32)), .unset, .unset, .unset] [(.int (9 : Int32)), (.long (p1.toInt64)), (.int (Int32.ofNat (SBG.digits (absN p1)))), (.int (12 : Int32)), (.ref y_1)])) (fun _ k => st62 _ (XS.ifNo X62.here hx rfl (hb hby at_412) rfl ((if0 _ _).trans (feq (by decide : ¬ ((1 : Int32) = (0 : Int32)))).1) (XS.aloadN X62.here hx rfl (hb hby at_415) rfl rfl (XS.iload X62.here hx rfl (hb hby at_416) rfl (XS.iload X62.here hx rfl (hb hby at_418) rfl (XS.lload X62.here hx rfl (hb hby at_420) rfl (XS.bipush X62.here hx rfl (hb hby at_422) k))))))) ?_
    obtain ⟨rv63, _, ⟨T63, L63, k63, n63⟩, -, X63, ⟨Lc63, hQ63, l63, y63, z63⟩, st63⟩ := Jvm.LawKit.callS X62 hx (y := (⟨"com/example/bourse/bourse/exchange/BoundedFileTooLongPinLaw", "d", "(Ljava/lang/String;IIJI)Z"⟩ : MethodName)) ho41 (mvT hZ41 (wq hw 265 rfl)) (mvT hZ41 (wq hw 266 rfl)) (mvT hZ41 (wq hw 234 rfl)) (mvT hZ41 (wq hw 267 rfl)) (by decide) (backOf (W := 0) (lawD l Z a0 hw [] y_1 (12 : Int32) (Int32.ofNat (SBG.digits (absN p1))) (p1.toInt64) (9 : Int32) 9 12 (dgN p1) (absN p1) ty_1 ky_1 (msgL p1) G1 G3 h41 n0 Z0 sv_1 (by decide) rfl (own_ap hsg) (by decide) (dg_bnd p1).2 (by decide) (by decide) (abs_le p1) (msg_dl hoS) (msg_dig hoS) O2 P5 O4 rG3 Od) hZ41 (wq hw 267 rfl) (wq hw 234 rfl) (by decide) (by decide)) (g := (mkF m 424 #[.val (.int p1), .val (.ref x_1), .val (.ref y_1), .val (.long (p1.toInt64)), .second, .val (.int (0 : Int32)), .val (.long (p1.toInt64)), .second, .val (.int (Int32.ofNat (SBG.digits (absN p1)))), .val (.int (0 : Int32)), .val (.int (((12 : Int32) + (Int32.ofNat (SBG.digits (absN p1)))) + (6 : Int32))), .val (.ref la40), .val (.ref la41), .val (.int (1 : Int32)), .val (.int (1 : Int32)), .val (.int (12 : Int32)), .unset, .unset, .unset] [(.int (9 : Int32)), (.long (p1.toInt64)), (.int (Int32.ofNat (SBG.digits (absN p1)))), (.int (12 : Int32)), (.ref y_1)])) rfl (by rw [hml]; rfl) (argsL := [(.ref y_1), (.int (12 : Int32)), (.int (Int32.ofNat (SBG.digits (absN p1)))), (.long (p1.toInt64)), (.int (9 : Int32))]) (rest := []) (lenOf pd_31 rfl) rfl (by show 2 * 0 + _ ≤ _; exact Nat.le_of_eq rfl) (hb hby at_424) (fun _ _ => ⟨rfl, e62, (by decide : 15 + 0 ≤ _), (by decide : 3040 + 0 ≤ _)⟩)
    dsimp only [Pt.U, Pt.locs, Pt.cells, Pt.slots] at X63 l63 y63 z63 st63 hQ63
    have X63 := own_reb X63 l63 y63 z63
    obtain ⟨rfl, N63q, e63⟩ := hQ63
    have N63 := Fr.app N62 N63q
    refine GlW.pre (B := T63.setTop (mkF m 442 #[.val (.int p1), .val (.ref x_1), .val (.ref y_1), .val (.long (p1.toInt64)), .second, .val (.int (0 : Int32)), .val (.long (p1.toInt64)), .second, .val (.int (Int32.ofNat (SBG.digits (absN p1)))), .val (.int (0 : Int32)), .val (.int (((12 : Int32) + (Int32.ofNat (SBG.digits (absN p1)))) + (6 : Int32))), .val (.ref la40), .val (.ref la41), .val (.int (1 : Int32)), .val (.int (1 : Int32)), .val (.int (12 : Int32)), .val (.int (1 : Int32)), .unset, .unset] [(.int ((12 : Int32) + (Int32.ofNat (SBG.digits (absN p1)))))])) (fun _ k => st63 _ (XS.ifNo X63.here hx rfl (hb hby at_427) rfl ((if0 _ _).trans (feq (by decide : ¬ ((1 : Int32) = (0 : Int32)))).1) (XS.iconst X63.here hx rfl (hb hby at_430) (XS.goto X63.here hx rfl (pc0 := 431) (pc' := 435) rfl (hb hby at_431) (by decide) (by decide) (XS.istore X63.here hx rfl (hb hby at_435) rfl (l' := #[.val (.int p1), .val (.ref x_1), .val (.ref y_1), .val (.long (p1.toInt64)), .second, .val (.int (0 : Int32)), .val (.long (p1.toInt64)), .second, .val (.int (Int32.ofNat (SBG.digits (absN p1)))), .val (.int (0 : Int32)), .val (.int (((12 : Int32) + (Int32.ofNat (SBG.digits (absN p1)))) + (6 : Int32))), .val (.ref la40), .val (.ref la41), .val (.int (1 : Int32)), .val (.int (1 : Int32)), .val (.int (12 : Int32)), .val (.int (1 : Int32)), .unset, .unset]) rfl (XS.iload X63.here hx rfl (hb hby at_437) rfl (XS.iload X63.here hx rfl (hb hby at_439) rfl (XS.iadd X63.here hx rfl (hb hby at_441) rfl k)))))))) ?_
    refine GlW.pre (B := T63.setTop (mkF m 450 #[.val (.int p1), .val (.ref x_1), .val (.ref y_1), .val (.long (p1.toInt64)), .second, .val (.int (0 : Int32)), .val (.long (p1.toInt64)), .second, .val (.int (Int32.ofNat (SBG.digits (absN p1)))), .val (.int (0 : Int32)), .val (.int (((12 : Int32) + (Int32.ofNat (SBG.digits (absN p1)))) + (6 : Int32))), .val (.ref la40), .val (.ref la41), .val (.int (1 : Int32)), .val (.int (1 : Int32)), .val (.int (12 : Int32)), .val (.int (1 : Int32)), .val (.int ((12 : Int32) + (Int32.ofNat (SBG.digits (absN p1))))), .unset] [(.int (0 : Int32)), (.ref la41), (.int ((12 : Int32) + (Int32.ofNat (SBG.digits (absN p1))))), (.ref y_1)])) (fun _ k => XS.istore X63.here hx rfl (hb hby at_442) rfl (l' := #[.val (.int p1), .val (.ref x_1), .val (.ref y_1), .val (.long (p1.toInt64)), .second, .val (.int (0 : Int32)), .val (.long (p1.toInt64)), .second, .val (.int (Int32.ofNat (SBG.digits (absN p1)))), .val (.int (0 : Int32)), .val (.int (((12 : Int32) + (Int32.ofNat (SBG.digits (absN p1)))) + (6 : Int32))), .val (.ref la40), .val (.ref la41), .val (.int (1 : Int32)), .val (.int (1 : Int32)), .val (.int (12 : Int32)), .val (.int (1 : Int32)), .val (.int ((12 : Int32) + (Int32.ofNat (SBG.digits (absN p1))))), .unset]) rfl (XS.aloadN X63.here hx rfl (hb hby at_444) rfl rfl (XS.iload X63.here hx rfl (hb hby at_445) rfl (XS.aload X63.here hx rfl (hb hby at_447) rfl rfl (XS.iconst X63.here hx rfl (hb hby at_449) k))))) ?_
    obtain ⟨rv64, _, ⟨T64, L64, k64, n64⟩, -, X64, ⟨Lc64, hQ64, l64, y64, z64⟩, st64⟩ := Jvm.LawKit.callS X63 hx (y := (⟨"com/example/bourse/bourse/exchange/BoundedFileTooLongPinLaw", "at", "(Ljava/lang/String;ILjava/lang/String;I)Z"⟩ : MethodName)) ho41 (mvT hZ41 (wq hw 240 rfl)) (mvT hZ41 (wq hw 241 rfl)) (mvT hZ41 (wq hw 234 rfl)) (mvT hZ41 (wq hw 242 rfl)) (by decide) (backOf (W := 0) (lawAt l Z a0 hw [] y_1 ((12 : Int32) + (Int32.ofNat (SBG.digits (absN p1)))) la41 (0 : Int32) (12 + dgN p1 + 0) 0 ty_1 ky_1 (msgL p1) lb41 _ sufL G1 G3 h41 n0 Z0 sv_1 (suf_s E_la41 F_value_la41 F_coder_la41 V_lb41) (own_add3 12 _ 0) (msg_ol hoS (by decide)) (by decide) (by decide) (msg_suf hoS) O2 P5 O4 rG3 Od) hZ41 (wq hw 242 rfl) (wq hw 234 rfl) (by decide) (by decide)) (g := (mkF m 450 #[.val (.int p1), .val (.ref x_1), .val (.ref y_1), .val (.long (p1.toInt64)), .second, .val (.int (0 : Int32)), .val (.long (p1.toInt64)), .second, .val (.int (Int32.ofNat (SBG.digits (absN p1)))), .val (.int (0 : Int32)), .val (.int (((12 : Int32) + (Int32.ofNat (SBG.digits (absN p1)))) + (6 : Int32))), .val (.ref la40), .val (.ref la41), .val (.int (1 : Int32)), .val (.int (1 : Int32)), .val (.int (12 : Int32)), .val (.int (1 : Int32)), .val (.int ((12 : Int32) + (Int32.ofNat (SBG.digits (absN p1))))), .unset] [(.int (0 : Int32)), (.ref la41), (.int ((12 : Int32) + (Int32.ofNat (SBG.digits (absN p1))))), (.ref y_1)])) rfl (by rw [hml]; rfl) (argsL := [(.ref y_1), (.int ((12 : Int32) + (Int32.ofNat (SBG.digits (absN p1))))), (.ref la41), (.int (0 : Int32))]) (rest := []) (lenOf pd_30 rfl) rfl (by show 2 * 0 + _ ≤ _; exact Nat.le_of_eq rfl) (hb hby at_450) (fun _ _ => ⟨rfl, e63, (by decide : 15 + 0 ≤ _), (by decide : 3040 + 0 ≤ _)⟩)
    dsimp only [Pt.U, Pt.locs, Pt.cells, Pt.slots] at X64 l64 y64 z64 st64 hQ64
    have X64 := own_reb X64 l64 y64 z64
    obtain ⟨rfl, N64q, e64⟩ := hQ64
    have N64 := Fr.app N63 N64q
    refine GlW.pre (B := T64.setTop (mkF m 462 #[.val (.int p1), .val (.ref x_1), .val (.ref y_1), .val (.long (p1.toInt64)), .second, .val (.int (0 : Int32)), .val (.long (p1.toInt64)), .second, .val (.int (Int32.ofNat (SBG.digits (absN p1)))), .val (.int (0 : Int32)), .val (.int (((12 : Int32) + (Int32.ofNat (SBG.digits (absN p1)))) + (6 : Int32))), .val (.ref la40), .val (.ref la41), .val (.int (1 : Int32)), .val (.int (1 : Int32)), .val (.int (12 : Int32)), .val (.int (1 : Int32)), .val (.int ((12 : Int32) + (Int32.ofNat (SBG.digits (absN p1))))), .unset] [(.int (1 : Int32)), (.ref la41), (.int ((12 : Int32) + (Int32.ofNat (SBG.digits (absN p1))))), (.ref y_1)])) (fun _ k => st64 _ (XS.ifNo X64.here hx rfl (hb hby at_453) rfl ((if0 _ _).trans (feq (by decide : ¬ ((1 : Int32) = (0 : Int32)))).1) (XS.aloadN X64.here hx rfl (hb hby at_456) rfl rfl (XS.iload X64.here hx rfl (hb hby at_457) rfl (XS.aload X64.here hx rfl (hb hby at_459) rfl rfl (XS.iconst X64.here hx rfl (hb hby at_461) k)))))) ?_
    obtain ⟨rv65, _, ⟨T65, L65, k65, n65⟩, -, X65, ⟨Lc65, hQ65, l65, y65, z65⟩, st65⟩ := Jvm.LawKit.callS X64 hx (y := (⟨"com/example/bourse/bourse/exchange/BoundedFileTooLongPinLaw", "at", "(Ljava/lang/String;ILjava/lang/String;I)Z"⟩ : MethodName)) ho41 (mvT hZ41 (wq hw 240 rfl)) (mvT hZ41 (wq hw 241 rfl)) (mvT hZ41 (wq hw 234 rfl)) (mvT hZ41 (wq hw 242 rfl)) (by decide) (backOf (W := 0) (lawAt l Z a0 hw [] y_1 ((12 : Int32) + (Int32.ofNat (SBG.digits (absN p1)))) la41 (1 : Int32) (12 + dgN p1 + 1) 1 ty_1 ky_1 (msgL p1) lb41 _ sufL G1 G3 h41 n0 Z0 sv_1 (suf_s E_la41 F_value_la41 F_coder_la41 V_lb41) (own_add3 12 _ 1) (msg_ol hoS (by decide)) (by decide) (by decide) (msg_suf hoS) O2 P5 O4 rG3 Od) hZ41 (wq hw 242 rfl) (wq hw 234 rfl) (by decide) (by decide)) (g := (mkF m 462 #[.val (.int p1), .val (.ref x_1), .val (.ref y_1), .val (.long (p1.toInt64)), .second, .val (.int (0 : Int32)), .val (.long (p1.toInt64)), .second, .val (.int (Int32.ofNat (SBG.digits (absN p1)))), .val (.int (0 : Int32)), .val (.int (((12 : Int32) + (Int32.ofNat (SBG.digits (absN p1)))) + (6 : Int32))), .val (.ref la40), .val (.ref la41), .val (.int (1 : Int32)), .val (.int (1 : Int32)), .val (.int (12 : Int32)), .val (.int (1 : Int32)), .val (.int ((12 : Int32) + (Int32.ofNat (SBG.digits (absN p1))))), .unset] [(.int (1 : Int32)), (.ref la41), (.int ((12 : Int32) + (Int32.ofNat (SBG.digits (absN p1))))), (.ref y_1)])) rfl (by rw [hml]; rfl) (argsL := [(.ref y_1), (.int ((12 : Int32) + (Int32.ofNat (SBG.digits (absN p1))))), (.ref la41), (.int (1 : Int32))]) (rest := []) (lenOf pd_30 rfl) rfl (by show 2 * 0 + _ ≤ _; exact Nat.le_of_eq rfl) (hb hby at_462) (fun _ _ => ⟨rfl, e64, (by decide : 15 + 0 ≤ _), (by decide : 3040 + 0 ≤ _)⟩)
    dsimp only [Pt.U, Pt.locs, Pt.cells, Pt.slots] at X65 l65 y65 z65 st65 hQ65
    have X65 := own_reb X65 l65 y65 z65
    obtain ⟨rfl, N65q, e65⟩ := hQ65
    have N65 := Fr.app N64 N65q
    refine GlW.pre (B := T65.setTop (mkF m 474 #[.val (.int p1), .val (.ref x_1), .val (.ref y_1), .val (.long (p1.toInt64)), .second, .val (.int (0 : Int32)), .val (.long (p1.toInt64)), .second, .val (.int (Int32.ofNat (SBG.digits (absN p1)))), .val (.int (0 : Int32)), .val (.int (((12 : Int32) + (Int32.ofNat (SBG.digits (absN p1)))) + (6 : Int32))), .val (.ref la40), .val (.ref la41), .val (.int (1 : Int32)), .val (.int (1 : Int32)), .val (.int (12 : Int32)), .val (.int (1 : Int32)), .val (.int ((12 : Int32) + (Int32.ofNat (SBG.digits (absN p1))))), .unset] [(.int (2 : Int32)), (.ref la41), (.int ((12 : Int32) + (Int32.ofNat (SBG.digits (absN p1))))), (.ref y_1)])) (fun _ k => st65 _ (XS.ifNo X65.here hx rfl (hb hby at_465) rfl ((if0 _ _).trans (feq (by decide : ¬ ((1 : Int32) = (0 : Int32)))).1) (XS.aloadN X65.here hx rfl (hb hby at_468) rfl rfl (XS.iload X65.here hx rfl (hb hby at_469) rfl (XS.aload X65.here hx rfl (hb hby at_471) rfl rfl (XS.iconst X65.here hx rfl (hb hby at_473) k)))))) ?_
    obtain ⟨rv66, _, ⟨T66, L66, k66, n66⟩, -, X66, ⟨Lc66, hQ66, l66, y66, z66⟩, st66⟩ := Jvm.LawKit.callS X65 hx (y := (⟨"com/example/bourse/bourse/exchange/BoundedFileTooLongPinLaw", "at", "(Ljava/lang/String;ILjava/lang/String;I)Z"⟩ : MethodName)) ho41 (mvT hZ41 (wq hw 240 rfl)) (mvT hZ41 (wq hw 241 rfl)) (mvT hZ41 (wq hw 234 rfl)) (mvT hZ41 (wq hw 242 rfl)) (by decide) (backOf (W := 0) (lawAt l Z a0 hw [] y_1 ((12 : Int32) + (Int32.ofNat (SBG.digits (absN p1)))) la41 (2 : Int32) (12 + dgN p1 + 2) 2 ty_1 ky_1 (msgL p1) lb41 _ sufL G1 G3 h41 n0 Z0 sv_1 (suf_s E_la41 F_value_la41 F_coder_la41 V_lb41) (own_add3 12 _ 2) (msg_ol hoS (by decide)) (by decide) (by decide) (msg_suf hoS) O2 P5 O4 rG3 Od) hZ41 (wq hw 242 rfl) (wq hw 234 rfl) (by decide) (by decide)) (g := (mkF m 474 #[.val (.int p1), .val (.ref x_1), .val (.ref y_1), .val (.long (p1.toInt64)), .second, .val (.int (0 : Int32)), .val (.long (p1.toInt64)), .second, .val (.int (Int32.ofNat (SBG.digits (absN p1)))), .val (.int (0 : Int32)), .val (.int (((12 : Int32) + (Int32.ofNat (SBG.digits (absN p1)))) + (6 : Int32))), .val (.ref la40), .val (.ref la41), .val (.int (1 : Int32)), .val (.int (1 : Int32)), .val (.int (12 : Int32)), .val (.int (1 : Int32)), .val (.int ((12 : Int32) + (Int32.ofNat (SBG.digits (absN p1))))), .unset] [(.int (2 : Int32)), (.ref la41), (.int ((12 : Int32) + (Int32.ofNat (SBG.digits (absN p1))))), (.ref y_1)])) rfl (by rw [hml]; rfl) (argsL := [(.ref y_1), (.int ((12 : Int32) + (Int32.ofNat (SBG.digits (absN p1))))), (.ref la41), (.int (2 : Int32))]) (rest := []) (lenOf pd_30 rfl) rfl (by show 2 * 0 + _ ≤ _; exact Nat.le_of_eq rfl) (hb hby at_474) (fun _ _ => ⟨rfl, e65, (by decide : 15 + 0 ≤ _), (by decide : 3040 + 0 ≤ _)⟩)
    dsimp only [Pt.U, Pt.locs, Pt.cells, Pt.slots] at X66 l66 y66 z66 st66 hQ66
    have X66 := own_reb X66 l66 y66 z66
    obtain ⟨rfl, N66q, e66⟩ := hQ66
    have N66 := Fr.app N65 N66q
    refine GlW.pre (B := T66.setTop (mkF m 486 #[.val (.int p1), .val (.ref x_1), .val (.ref y_1), .val (.long (p1.toInt64)), .second, .val (.int (0 : Int32)), .val (.long (p1.toInt64)), .second, .val (.int (Int32.ofNat (SBG.digits (absN p1)))), .val (.int (0 : Int32)), .val (.int (((12 : Int32) + (Int32.ofNat (SBG.digits (absN p1)))) + (6 : Int32))), .val (.ref la40), .val (.ref la41), .val (.int (1 : Int32)), .val (.int (1 : Int32)), .val (.int (12 : Int32)), .val (.int (1 : Int32)), .val (.int ((12 : Int32) + (Int32.ofNat (SBG.digits (absN p1))))), .unset] [(.int (3 : Int32)), (.ref la41), (.int ((12 : Int32) + (Int32.ofNat (SBG.digits (absN p1))))), (.ref y_1)])) (fun _ k => st66 _ (XS.ifNo X66.here hx rfl (hb hby at_477) rfl ((if0 _ _).trans (feq (by decide : ¬ ((1 : Int32) = (0 : Int32)))).1) (XS.aloadN X66.here hx rfl (hb hby at_480) rfl rfl (XS.iload X66.here hx rfl (hb hby at_481) rfl (XS.aload X66.here hx rfl (hb hby at_483) rfl rfl (XS.iconst X66.here hx rfl (hb hby at_485) k)))))) ?_
    obtain ⟨rv67, _, ⟨T67, L67, k67, n67⟩, -, X67, ⟨Lc67, hQ67, l67, y67, z67⟩, st67⟩ := Jvm.LawKit.callS X66 hx (y := (⟨"com/example/bourse/bourse/exchange/BoundedFileTooLongPinLaw", "at", "(Ljava/lang/String;ILjava/lang/String;I)Z"⟩ : MethodName)) ho41 (mvT hZ41 (wq hw 240 rfl)) (mvT hZ41 (wq hw 241 rfl)) (mvT hZ41 (wq hw 234 rfl)) (mvT hZ41 (wq hw 242 rfl)) (by decide) (backOf (W := 0) (lawAt l Z a0 hw [] y_1 ((12 : Int32) + (Int32.ofNat (SBG.digits (absN p1)))) la41 (3 : Int32) (12 + dgN p1 + 3) 3 ty_1 ky_1 (msgL p1) lb41 _ sufL G1 G3 h41 n0 Z0 sv_1 (suf_s E_la41 F_value_la41 F_coder_la41 V_lb41) (own_add3 12 _ 3) (msg_ol hoS (by decide)) (by decide) (by decide) (msg_suf hoS) O2 P5 O4 rG3 Od) hZ41 (wq hw 242 rfl) (wq hw 234 rfl) (by decide) (by decide)) (g := (mkF m 486 #[.val (.int p1), .val (.ref x_1), .val (.ref y_1), .val (.long (p1.toInt64)), .second, .val (.int (0 : Int32)), .val (.long (p1.toInt64)), .second, .val (.int (Int32.ofNat (SBG.digits (absN p1)))), .val (.int (0 : Int32)), .val (.int (((12 : Int32) + (Int32.ofNat (SBG.digits (absN p1)))) + (6 : Int32))), .val (.ref la40), .val (.ref la41), .val (.int (1 : Int32)), .val (.int (1 : Int32)), .val (.int (12 : Int32)), .val (.int (1 : Int32)), .val (.int ((12 : Int32) + (Int32.ofNat (SBG.digits (absN p1))))), .unset] [(.int (3 : Int32)), (.ref la41), (.int ((12 : Int32) + (Int32.ofNat (SBG.digits (absN p1))))), (.ref y_1)])) rfl (by rw [hml]; rfl) (argsL := [(.ref y_1), (.int ((12 : Int32) + (Int32.ofNat (SBG.digits (absN p1))))), (.ref la41), (.int (3 : Int32))]) (rest := []) (lenOf pd_30 rfl) rfl (by show 2 * 0 + _ ≤ _; exact Nat.le_of_eq rfl) (hb hby at_486) (fun _ _ => ⟨rfl, e66, (by decide : 15 + 0 ≤ _), (by decide : 3040 + 0 ≤ _)⟩)
    dsimp only [Pt.U, Pt.locs, Pt.cells, Pt.slots] at X67 l67 y67 z67 st67 hQ67
    have X67 := own_reb X67 l67 y67 z67
    obtain ⟨rfl, N67q, e67⟩ := hQ67
    have N67 := Fr.app N66 N67q
    refine GlW.pre (B := T67.setTop (mkF m 498 #[.val (.int p1), .val (.ref x_1), .val (.ref y_1), .val (.long (p1.toInt64)), .second, .val (.int (0 : Int32)), .val (.long (p1.toInt64)), .second, .val (.int (Int32.ofNat (SBG.digits (absN p1)))), .val (.int (0 : Int32)), .val (.int (((12 : Int32) + (Int32.ofNat (SBG.digits (absN p1)))) + (6 : Int32))), .val (.ref la40), .val (.ref la41), .val (.int (1 : Int32)), .val (.int (1 : Int32)), .val (.int (12 : Int32)), .val (.int (1 : Int32)), .val (.int ((12 : Int32) + (Int32.ofNat (SBG.digits (absN p1))))), .unset] [(.int (4 : Int32)), (.ref la41), (.int ((12 : Int32) + (Int32.ofNat (SBG.digits (absN p1))))), (.ref y_1)])) (fun _ k => st67 _ (XS.ifNo X67.here hx rfl (hb hby at_489) rfl ((if0 _ _).trans (feq (by decide : ¬ ((1 : Int32) = (0 : Int32)))).1) (XS.aloadN X67.here hx rfl (hb hby at_492) rfl rfl (XS.iload X67.here hx rfl (hb hby at_493) rfl (XS.aload X67.here hx rfl (hb hby at_495) rfl rfl (XS.iconst X67.here hx rfl (hb hby at_497) k)))))) ?_
    obtain ⟨rv68, _, ⟨T68, L68, k68, n68⟩, -, X68, ⟨Lc68, hQ68, l68, y68, z68⟩, st68⟩ := Jvm.LawKit.callS X67 hx (y := (⟨"com/example/bourse/bourse/exchange/BoundedFileTooLongPinLaw", "at", "(Ljava/lang/String;ILjava/lang/String;I)Z"⟩ : MethodName)) ho41 (mvT hZ41 (wq hw 240 rfl)) (mvT hZ41 (wq hw 241 rfl)) (mvT hZ41 (wq hw 234 rfl)) (mvT hZ41 (wq hw 242 rfl)) (by decide) (backOf (W := 0) (lawAt l Z a0 hw [] y_1 ((12 : Int32) + (Int32.ofNat (SBG.digits (absN p1)))) la41 (4 : Int32) (12 + dgN p1 + 4) 4 ty_1 ky_1 (msgL p1) lb41 _ sufL G1 G3 h41 n0 Z0 sv_1 (suf_s E_la41 F_value_la41 F_coder_la41 V_lb41) (own_add3 12 _ 4) (msg_ol hoS (by decide)) (by decide) (by decide) (msg_suf hoS) O2 P5 O4 rG3 Od) hZ41 (wq hw 242 rfl) (wq hw 234 rfl) (by decide) (by decide)) (g := (mkF m 498 #[.val (.int p1), .val (.ref x_1), .val (.ref y_1), .val (.long (p1.toInt64)), .second, .val (.int (0 : Int32)), .val (.long (p1.toInt64)), .second, .val (.int (Int32.ofNat (SBG.digits (absN p1)))), .val (.int (0 : Int32)), .val (.int (((12 : Int32) + (Int32.ofNat (SBG.digits (absN p1)))) + (6 : Int32))), .val (.ref la40), .val (.ref la41), .val (.int (1 : Int32)), .val (.int (1 : Int32)), .val (.int (12 : Int32)), .val (.int (1 : Int32)), .val (.int ((12 : Int32) + (Int32.ofNat (SBG.digits (absN p1))))), .unset] [(.int (4 : Int32)), (.ref la41), (.int ((12 : Int32) + (Int32.ofNat (SBG.digits (absN p1))))), (.ref y_1)])) rfl (by rw [hml]; rfl) (argsL := [(.ref y_1), (.int ((12 : Int32) + (Int32.ofNat (SBG.digits (absN p1))))), (.ref la41), (.int (4 : Int32))]) (rest := []) (lenOf pd_30 rfl) rfl (by show 2 * 0 + _ ≤ _; exact Nat.le_of_eq rfl) (hb hby at_498) (fun _ _ => ⟨rfl, e67, (by decide : 15 + 0 ≤ _), (by decide : 3040 + 0 ≤ _)⟩)
    dsimp only [Pt.U, Pt.locs, Pt.cells, Pt.slots] at X68 l68 y68 z68 st68 hQ68
    have X68 := own_reb X68 l68 y68 z68
    obtain ⟨rfl, N68q, e68⟩ := hQ68
    have N68 := Fr.app N67 N68q
    refine GlW.pre (B := T68.setTop (mkF m 510 #[.val (.int p1), .val (.ref x_1), .val (.ref y_1), .val (.long (p1.toInt64)), .second, .val (.int (0 : Int32)), .val (.long (p1.toInt64)), .second, .val (.int (Int32.ofNat (SBG.digits (absN p1)))), .val (.int (0 : Int32)), .val (.int (((12 : Int32) + (Int32.ofNat (SBG.digits (absN p1)))) + (6 : Int32))), .val (.ref la40), .val (.ref la41), .val (.int (1 : Int32)), .val (.int (1 : Int32)), .val (.int (12 : Int32)), .val (.int (1 : Int32)), .val (.int ((12 : Int32) + (Int32.ofNat (SBG.digits (absN p1))))), .unset] [(.int (5 : Int32)), (.ref la41), (.int ((12 : Int32) + (Int32.ofNat (SBG.digits (absN p1))))), (.ref y_1)])) (fun _ k => st68 _ (XS.ifNo X68.here hx rfl (hb hby at_501) rfl ((if0 _ _).trans (feq (by decide : ¬ ((1 : Int32) = (0 : Int32)))).1) (XS.aloadN X68.here hx rfl (hb hby at_504) rfl rfl (XS.iload X68.here hx rfl (hb hby at_505) rfl (XS.aload X68.here hx rfl (hb hby at_507) rfl rfl (XS.iconst X68.here hx rfl (hb hby at_509) k)))))) ?_
    obtain ⟨rv69, _, ⟨T69, L69, k69, n69⟩, -, X69, ⟨Lc69, hQ69, l69, y69, z69⟩, st69⟩ := Jvm.LawKit.callS X68 hx (y := (⟨"com/example/bourse/bourse/exchange/BoundedFileTooLongPinLaw", "at", "(Ljava/lang/String;ILjava/lang/String;I)Z"⟩ : MethodName)) ho41 (mvT hZ41 (wq hw 240 rfl)) (mvT hZ41 (wq hw 241 rfl)) (mvT hZ41 (wq hw 234 rfl)) (mvT hZ41 (wq hw 242 rfl)) (by decide) (backOf (W := 0) (lawAt l Z a0 hw [] y_1 ((12 : Int32) + (Int32.ofNat (SBG.digits (absN p1)))) la41 (5 : Int32) (12 + dgN p1 + 5) 5 ty_1 ky_1 (msgL p1) lb41 _ sufL G1 G3 h41 n0 Z0 sv_1 (suf_s E_la41 F_value_la41 F_coder_la41 V_lb41) (own_add3 12 _ 5) (msg_ol hoS (by decide)) (by decide) (by decide) (msg_suf hoS) O2 P5 O4 rG3 Od) hZ41 (wq hw 242 rfl) (wq hw 234 rfl) (by decide) (by decide)) (g := (mkF m 510 #[.val (.int p1), .val (.ref x_1), .val (.ref y_1), .val (.long (p1.toInt64)), .second, .val (.int (0 : Int32)), .val (.long (p1.toInt64)), .second, .val (.int (Int32.ofNat (SBG.digits (absN p1)))), .val (.int (0 : Int32)), .val (.int (((12 : Int32) + (Int32.ofNat (SBG.digits (absN p1)))) + (6 : Int32))), .val (.ref la40), .val (.ref la41), .val (.int (1 : Int32)), .val (.int (1 : Int32)), .val (.int (12 : Int32)), .val (.int (1 : Int32)), .val (.int ((12 : Int32) + (Int32.ofNat (SBG.digits (absN p1))))), .unset] [(.int (5 : Int32)), (.ref la41), (.int ((12 : Int32) + (Int32.ofNat (SBG.digits (absN p1))))), (.ref y_1)])) rfl (by rw [hml]; rfl) (argsL := [(.ref y_1), (.int ((12 : Int32) + (Int32.ofNat (SBG.digits (absN p1))))), (.ref la41), (.int (5 : Int32))]) (rest := []) (lenOf pd_30 rfl) rfl (by show 2 * 0 + _ ≤ _; exact Nat.le_of_eq rfl) (hb hby at_510) (fun _ _ => ⟨rfl, e68, (by decide : 15 + 0 ≤ _), (by decide : 3040 + 0 ≤ _)⟩)
    dsimp only [Pt.U, Pt.locs, Pt.cells, Pt.slots] at X69 l69 y69 z69 st69 hQ69
    have X69 := own_reb X69 l69 y69 z69
    obtain ⟨rfl, N69q, e69⟩ := hQ69
    have N69 := Fr.app N68 N69q
    refine GlW.pre (B := T69.setTop (mkF m 530 #[.val (.int p1), .val (.ref x_1), .val (.ref y_1), .val (.long (p1.toInt64)), .second, .val (.int (0 : Int32)), .val (.long (p1.toInt64)), .second, .val (.int (Int32.ofNat (SBG.digits (absN p1)))), .val (.int (0 : Int32)), .val (.int (((12 : Int32) + (Int32.ofNat (SBG.digits (absN p1)))) + (6 : Int32))), .val (.ref la40), .val (.ref la41), .val (.int (1 : Int32)), .val (.int (1 : Int32)), .val (.int (12 : Int32)), .val (.int (1 : Int32)), .val (.int ((12 : Int32) + (Int32.ofNat (SBG.digits (absN p1))))), .val (.int (1 : Int32))] [(.int (1 : Int32))])) (fun _ k => st69 _ (XS.ifNo X69.here hx rfl (hb hby at_513) rfl ((if0 _ _).trans (feq (by decide : ¬ ((1 : Int32) = (0 : Int32)))).1) (XS.iconst X69.here hx rfl (hb hby at_516) (XS.goto X69.here hx rfl (pc0 := 517) (pc' := 521) rfl (hb hby at_517) (by decide) (by decide) (XS.istore X69.here hx rfl (hb hby at_521) rfl (l' := #[.val (.int p1), .val (.ref x_1), .val (.ref y_1), .val (.long (p1.toInt64)), .second, .val (.int (0 : Int32)), .val (.long (p1.toInt64)), .second, .val (.int (Int32.ofNat (SBG.digits (absN p1)))), .val (.int (0 : Int32)), .val (.int (((12 : Int32) + (Int32.ofNat (SBG.digits (absN p1)))) + (6 : Int32))), .val (.ref la40), .val (.ref la41), .val (.int (1 : Int32)), .val (.int (1 : Int32)), .val (.int (12 : Int32)), .val (.int (1 : Int32)), .val (.int ((12 : Int32) + (Int32.ofNat (SBG.digits (absN p1))))), .val (.int (1 : Int32))]) rfl (XS.iload X69.here hx rfl (hb hby at_523) rfl (XS.ifNo X69.here hx rfl (hb hby at_525) rfl ((if0 _ _).trans (feq (by decide : ¬ ((1 : Int32) = (0 : Int32)))).1) (XS.iload X69.here hx rfl (hb hby at_528) rfl k)))))))) ?_
    refine GlW.pre (B := T69.setTop (mkF m 548 #[.val (.int p1), .val (.ref x_1), .val (.ref y_1), .val (.long (p1.toInt64)), .second, .val (.int (0 : Int32)), .val (.long (p1.toInt64)), .second, .val (.int (Int32.ofNat (SBG.digits (absN p1)))), .val (.int (0 : Int32)), .val (.int (((12 : Int32) + (Int32.ofNat (SBG.digits (absN p1)))) + (6 : Int32))), .val (.ref la40), .val (.ref la41), .val (.int (1 : Int32)), .val (.int (1 : Int32)), .val (.int (12 : Int32)), .val (.int (1 : Int32)), .val (.int ((12 : Int32) + (Int32.ofNat (SBG.digits (absN p1))))), .val (.int (1 : Int32))] [(.int (1 : Int32))])) (fun _ k => XS.ifNo X69.here hx rfl (hb hby at_530) rfl ((if0 _ _).trans (feq (by decide : ¬ ((1 : Int32) = (0 : Int32)))).1) (XS.iload X69.here hx rfl (hb hby at_533) rfl (XS.ifNo X69.here hx rfl (hb hby at_535) rfl ((if0 _ _).trans (feq (by decide : ¬ ((1 : Int32) = (0 : Int32)))).1) (XS.iload X69.here hx rfl (hb hby at_538) rfl (XS.ifNo X69.here hx rfl (hb hby at_540) rfl ((if0 _ _).trans (feq (by decide : ¬ ((1 : Int32) = (0 : Int32)))).1) (XS.iconst X69.here hx rfl (hb hby at_543) (XS.goto X69.here hx rfl (pc0 := 544) (pc' := 548) rfl (hb hby at_544) (by decide) (by decide) k))))))) ?_
    refine GlW.out X69 hsh e69 hS41 hk41 hZ41 hEL CR (v := some (.int (1 : Int32))) (fun h => by rw [hret] at h; cases h) hlk (fun fs hr => retN X69 hx (t := .boolean) hret (by simp) (hb hby at_548) hr) ?_ (by decide) (by decide)
    show Q_rm0 Z _ _ _ _ _ _ _ _ _ _ h0 n0 _ T69.heap _
    rw [e69]
    exact ⟨rfl, N69⟩
set_option maxRecDepth 65536 in
set_option maxHeartbeats 40000000 in
theorem comes_1 {Post : Tables → Env → Array Value → State → Outcome → State → Prop} (hpost : ∀ tb e args s v u, (limb_1_1.after args s (.returned v) u = true ∧ limb_1_2.after args s (.returned v) u = true ∧ True) → ReturnedEndW s (.returned v) u (Jvm.fieldLocs frame_1_writes args s ++ Jvm.arrayLocs frame_1_arrays args s ++ Jvm.staticLocs frame_1_statics s) 32 9920 → Post tb e args s (.returned v) u) :
    ArmFor flags0 classFile x code maxLocals ret World_1 tables_1 room_1 Calls_1 rest_1 Pre_1 Post := by
  intro l hfl _ _ p e ha hc hk s m args below hf hA hF happ hP
  obtain ⟨hcalls, hrest, hpre⟩ := hP
  obtain ⟨-, -, -, hnamed, -, -, -, hat⟩ := (Spec.applies_iff hf).mp happ
  obtain ⟨hg, hn⟩ := and_e (Cond.before_iff.mp (show (Jvm.Cond.and given_1 narrow_1).before args s = true from hpre))
  obtain ⟨h1, hr1⟩ := and_e hg
  have hi0 := hr1
  obtain ⟨w0, rfl⟩ : ∃ w0 : Value, args = #[w0] := by
    have hs : args.size = 1 := by simpa [Cond.value, given_1] using h1
    obtain ⟨L⟩ := args
    match L, hs with
    | [w0], _ => exact ⟨w0, rfl⟩
  have hw := fun d (hd : d ∈ tables_1) => atoms_spec (ws := Jvm.Cond.code x code maxLocals ret :: tables_1) hat d (List.mem_cons_of_mem _ hd)
  have hfit : Fit s := fun {y c} hc i hi => by
    obtain ⟨ha, rfl⟩ := Array.getElem?_eq_some_iff.mp hc
    have q := List.all_eq_true.mp ((Array.all_eq_true_iff_forall_mem.mp hF) _ (Array.getElem_mem ha)) i (List.mem_range.mpr hi)
    simpa [Array.getElem?_eq_getElem hi] using q
  obtain ⟨hsets, hown0⟩ := atoms_of _ (rest_1_c_eq ▸ (show rest_1_c.before _ s = true from hrest))
  have hr0 := Cond.before_iff.mp hown0
  obtain ⟨i0, ei0⟩ := is_v hi0
  obtain rfl : w0 = (.int i0) := Option.some.inj ei0
  have n3 := not_v (Cond.before_iff.mp (hsets _ (List.mem_of_getElem? (i := 2) rfl)))
  obtain ⟨i7, e6⟩ := is_v (Cond.before_iff.mp (hsets _ (List.mem_of_getElem? (i := 1) rfl)))
  have S8 : Sta s s.heap "java/lang/String" "COMPACT_STRINGS" "Z" (.int i7) := Sta.start e6 (Or.inl (hsets _ (List.mem_of_getElem? (i := 0) rfl)))
  have c13 : ¬ (i7 = (0 : Int32)) := gotF (Cond.eq_ints e6 (Term.int_eval (0))) n3
  have hCH : CHv s EL1 s.vm s.heap := CHv.start (ew_all hw) hcalls.2.2.1 (hsets _ (List.mem_of_getElem? (i := 2) rfl)) (wq hw 24 rfl) (wq hw 30 rfl)
  obtain ⟨v9, e10, r11⟩ := isR_v (Cond.before_iff.mp (hsets _ (List.mem_of_getElem? (i := 8) rfl)))
  have S12 : Sta s s.heap "jdk/internal/util/Preconditions" "SIOOBE_FORMATTER" "Ljava/util/function/BiFunction;" v9 := Sta.start e10 (Or.inl (hsets _ (List.mem_of_getElem? (i := 7) rfl)))
  obtain ⟨uA, DU, evU, -, -⟩ := Term.length_spec (own_eqv (Term.int_eval 0) (Cond.before_iff.mp (hsets _ (List.mem_of_getElem? (i := 29) rfl))))
  have S6 : Sta s s.heap "java/lang/Throwable" "UNASSIGNED_STACK" "[Ljava/lang/StackTraceElement;" (.ref uA) := Sta.start evU (Or.inl (hsets _ (List.mem_of_getElem? (i := 26) rfl)))
  obtain ⟨sA, evA⟩ := exa_v (Cond.before_iff.mp (hsets _ (List.mem_of_getElem? (i := 33) rfl)))
  have S7 : Sta s s.heap "java/lang/Throwable" "SUPPRESSED_SENTINEL" "Ljava/util/List;" (.ref sA) := Sta.start evA (Or.inl (hsets _ (List.mem_of_getElem? (i := 31) rfl)))
  obtain ⟨sT, dA, dB, DA, DB, tbA, onA, tbB, onB⟩ := own_tabs hsets (wq hw 24 rfl)
  have hlt : l.stackTraces = true := by show (!l.flags.contains noTraceFlag) = true; rw [hfl]; decide +kernel
  obtain ⟨n, o, h1, h2, h3, _, L, rfl, ⟨rfl, N⟩, -, hq⟩ := rm0 l s _ hw tables_1 i0 i7 v9 uA sA sT dA dB DA DB s.heap s.heap.size (Nat.le_refl _) S8 c13 S12 r11 (Old.start s) S6 S7 hlt tbA onA tbB onB p e ha hc hk s m _ below hf ((Spec.applies_iff_loose hf).mp happ).1 ⟨rfl, State.Warmed39.refl s, rfl, hCH⟩ ⟨MethodsKnown_of_tablesKnown hcalls.2.1, FramesKnown_of_framesKnown hcalls.1 hf⟩
  refine ⟨n, _, h1, h2, h3, hpost _ _ _ _ _ _ ⟨Cond.after_iff.mpr rfl, Cond.after_iff.mpr (eq_i res_at (Term.int_eval (1)) rfl), trivial⟩ ⟨hq.1, hq.2.1, hq.2.2.1, (hq.2.2.2.sift fun y hy => Or.inr (N y hy)).mono (by decide) (by decide)⟩⟩
theorem main_1_1 : Claimed_1_1 := comes_1 fun _ _ _ _ _ _ h hF => ⟨h.1, hF⟩
theorem main_1_2 : Claimed_1_2 := comes_1 fun _ _ _ _ _ _ h hF => ⟨h.2.1, hF⟩
end Jvm.Pilot.@@N@@
namespace Jvm.Pilot.@@N@@
open Jvm Jvm.ClassFile Sem Op Lib Jvm.Free Jvm.Stand Jvm.Pilot.@@N@@.Jvm.D
/-! MADE BY PROGRAM (witnessworld.py) out of the Statement's table words and the real class files: 41 classes; the members and pool entries that the words name. The judged class is class 1, her method 1. -/
namespace start1
open Jvm.ClassFile
def u (s : String) : CpInfo := .utf8 (stringToUtf16 s)
/-- a pool by its gaps: so many unusable entries, then the entry; so many at the end -/
def gap : Nat → List CpInfo → List CpInfo
  | 0, r => r
  | n + 1, r => .unusable :: gap n r
def poolList (es : List (Nat × CpInfo)) (last : Nat) : List CpInfo := es.foldr (fun e r => gap e.1 (e.2 :: r)) (gap last [])
def pool (es : List (Nat × CpInfo)) (last : Nat) : Array CpInfo := ⟨poolList es last⟩
def fileOf (pool : Array CpInfo) (this : Nat) (attrs : Array Attribute := #[]) (ms : Array MethodInfo := #[]) (fl : Nat := 33) (sup : Nat := 0) (ifs : Array Nat := #[]) (fds : Array FieldInfo := #[]) : ClassFile where
  minorVersion := 0
  majorVersion := 65
  constantPool := pool
  accessFlags := fl
  thisClass := this
  superClass := sup
  interfaces := ifs
  fields := fds
  methods := ms
  attributes := attrs
def plain (name : String) (sup : Option ClassId) : Class where
  name := name
  kind := .ordinary
  loader := none
  accessFlags := 33
  super := sup
  interfaces := #[]
  cf := none
  fields := #[]
  methods := #[]
  instanceTypes := #[]
  staticTypes := #[]
  resolved := #[]
  callSites := []
  init := .initialized
  statics := none
  mirror := none

def pool0 : Array CpInfo := pool [(5, u "<init>"), (0, u "()V"), (1, .class_ 10), (1, u "java/lang/Object")] 113

def k0c0 : Code := { maxStack := 0, maxLocals := 1, code := object_method_1_code, exceptionTable := #[], attributes := #[] }
def k0m0 : Method := { name := "<init>", desc := "()V", sig := { parameters := [], returnType := none }, accessFlags := 1, code := some k0c0 }
/-- java/lang/Object -/
def k0 : Class := { plain "java/lang/Object" none with
  accessFlags := 33
  interfaces := #[]
  cf := some (fileOf pool0 8 #[] #[{ accessFlags := 1, nameIndex := 5, descriptorIndex := 6, attributes := #[] }] 33 0 #[] #[])
  fields := #[]
  methods := #[k0m0]
  instanceTypes := #[]
  staticTypes := #[]
  resolved := Array.replicate 124 none
  statics := none }

def pool1 : Array CpInfo := pool [(2, .class_ 4), (1, u "java/lang/Object"), (0, u "<init>"), (0, u "()V"), (0, .methodref 8 9), (0, .class_ 10), (0, .nameAndType 11 12), (0, u "com/example/bourse/bourse/exchange/BoundedFile"), (0, u "tooLong"), (0, u "(I)Ljava/io/IOException;"), (0, .methodref 14 15), (0, .class_ 16), (0, .nameAndType 17 18), (0, u "java/io/IOException"), (0, u "getCause"), (0, u "()Ljava/lang/Throwable;"), (0, .methodref 14 20), (0, .nameAndType 21 22), (0, u "getMessage"), (0, u "()Ljava/lang/String;"), (0, .methodref 24 25), (0, .class_ 26), (0, .nameAndType 27 28), (0, u "com/example/bourse/bourse/exchange/BoundedFileTooLongPinLaw"), (0, u "digits"), (0, u "(J)I"), (0, .methodref 30 31), (0, .class_ 32), (0, .nameAndType 33 34), (0, u "java/lang/String"), (0, u "length"), (0, u "()I"), (0, .string 36), (0, u "longer than "), (0, .string 38), (0, u " bytes"), (0, .methodref 24 40), (0, .nameAndType 41 42), (0, u "at"), (0, u "(Ljava/lang/String;ILjava/lang/String;I)Z"), (0, .methodref 30 44), (0, .nameAndType 45 46), (0, u "charAt"), (0, u "(I)C"), (0, .methodref 24 48), (0, .nameAndType 49 50), (0, u "d"), (0, u "(Ljava/lang/String;IIJI)Z"), (0, .long 10), (1, .long 100), (1, .long 1000), (1, .long 10000), (1, .long 100000), (1, .long 1000000), (1, .long 10000000), (1, .long 100000000), (1, .long 1000000000), (1, .methodref 24 70), (0, .nameAndType 71 72), (0, u "pow10"), (0, u "(I)J"), (2, u "law"), (0, u "(I)Z")] 3

def k1m0 : Method := { name := "<init>", desc := "()V", sig := { parameters := [], returnType := none }, accessFlags := 2, code := none }
def k1c1 : Code := { maxStack := 6, maxLocals := 19, code := code, exceptionTable := #[], attributes := #[] }
def k1m1 : Method := { name := "law", desc := "(I)Z", sig := { parameters := [.int], returnType := some .boolean }, accessFlags := 9, code := some k1c1 }
def k1c2 : Code := { maxStack := 3, maxLocals := 4, code := method_3_code, exceptionTable := #[], attributes := #[] }
def k1m2 : Method := { name := "at", desc := "(Ljava/lang/String;ILjava/lang/String;I)Z", sig := { parameters := [(.object "java/lang/String"), .int, (.object "java/lang/String"), .int], returnType := some .boolean }, accessFlags := 10, code := some k1c2 }
def k1c3 : Code := { maxStack := 4, maxLocals := 2, code := method_4_code, exceptionTable := #[], attributes := #[] }
def k1m3 : Method := { name := "digits", desc := "(J)I", sig := { parameters := [.long], returnType := some .int }, accessFlags := 10, code := some k1c3 }
def k1c4 : Code := { maxStack := 2, maxLocals := 1, code := method_5_code, exceptionTable := #[], attributes := #[] }
def k1m4 : Method := { name := "pow10", desc := "(I)J", sig := { parameters := [.int], returnType := some .long }, accessFlags := 10, code := some k1c4 }
def k1c5 : Code := { maxStack := 5, maxLocals := 9, code := method_6_code, exceptionTable := #[], attributes := #[] }
def k1m5 : Method := { name := "d", desc := "(Ljava/lang/String;IIJI)Z", sig := { parameters := [(.object "java/lang/String"), .int, .int, .long, .int], returnType := some .boolean }, accessFlags := 10, code := some k1c5 }
/-- com/example/bourse/bourse/exchange/BoundedFileTooLongPinLaw -/
def k1 : Class := { plain "com/example/bourse/bourse/exchange/BoundedFileTooLongPinLaw" (some 0) with
  accessFlags := 49
  interfaces := #[]
  cf := some (fileOf pool1 24 #[] #[{ accessFlags := 2, nameIndex := 5, descriptorIndex := 6, attributes := #[] }, { accessFlags := 9, nameIndex := 75, descriptorIndex := 76, attributes := #[] }, { accessFlags := 10, nameIndex := 41, descriptorIndex := 42, attributes := #[] }, { accessFlags := 10, nameIndex := 27, descriptorIndex := 28, attributes := #[] }, { accessFlags := 10, nameIndex := 71, descriptorIndex := 72, attributes := #[] }, { accessFlags := 10, nameIndex := 49, descriptorIndex := 50, attributes := #[] }] 49 2 #[] #[])
  fields := #[]
  methods := #[k1m0, k1m1, k1m2, k1m3, k1m4, k1m5]
  instanceTypes := #[]
  staticTypes := #[]
  resolved := Array.replicate 80 none
  statics := none }

def pool2 : Array CpInfo := pool [(2, .class_ 4), (0, .nameAndType 5 6), (0, u "java/lang/Object"), (0, u "<init>"), (0, u "()V"), (23, .class_ 31), (0, u "java/io/IOException"), (1, .nameAndType 34 35), (0, u "toString"), (0, u "()Ljava/lang/String;"), (4, .class_ 42), (1, u "com/example/bourse/bourse/exchange/BoundedFile"), (0, u "tooLong"), (0, u "(I)Ljava/io/IOException;"), (0, .class_ 46), (0, u "java/lang/StringBuilder"), (0, .methodref 45 3), (0, .string 49), (0, u "longer than "), (0, .methodref 45 51), (0, .nameAndType 52 53), (0, u "append"), (0, u "(Ljava/lang/String;)Ljava/lang/StringBuilder;"), (0, .methodref 45 55), (0, .nameAndType 52 56), (0, u "(I)Ljava/lang/StringBuilder;"), (0, .string 58), (0, u " bytes"), (0, .methodref 45 33), (0, .methodref 30 61), (0, .nameAndType 5 62), (0, u "(Ljava/lang/String;)V")] 46

def k2m0 : Method := { name := "<init>", desc := "()V", sig := { parameters := [], returnType := none }, accessFlags := 2, code := none }
def k2c1 : Code := { maxStack := 4, maxLocals := 1, code := prog_8_method_3_code, exceptionTable := #[], attributes := #[] }
def k2m1 : Method := { name := "tooLong", desc := "(I)Ljava/io/IOException;", sig := { parameters := [.int], returnType := some (.object "java/io/IOException") }, accessFlags := 9, code := some k2c1 }
/-- com/example/bourse/bourse/exchange/BoundedFile -/
def k2 : Class := { plain "com/example/bourse/bourse/exchange/BoundedFile" (some 0) with
  accessFlags := 49
  interfaces := #[]
  cf := some (fileOf pool2 40 #[] #[{ accessFlags := 2, nameIndex := 5, descriptorIndex := 6, attributes := #[] }, { accessFlags := 9, nameIndex := 43, descriptorIndex := 44, attributes := #[] }] 49 2 #[] #[])
  fields := #[]
  methods := #[k2m0, k2m1]
  instanceTypes := #[]
  staticTypes := #[]
  resolved := Array.replicate 109 none
  statics := none }

def pool3 : Array CpInfo := pool [(1, .class_ 2), (0, u "java/io/Serializable"), (0, .class_ 4), (0, u "java/lang/Object")] 2

/-- java/io/Serializable -/
def k3 : Class := { plain "java/io/Serializable" (some 0) with
  accessFlags := 1537
  interfaces := #[]
  cf := some (fileOf pool3 1 #[] #[] 1537 3 #[] #[])
  fields := #[]
  methods := #[]
  instanceTypes := #[]
  staticTypes := #[]
  resolved := Array.replicate 7 none
  statics := none }

def pool4 : Array CpInfo := pool [(1, .methodref 2 3), (0, .class_ 4), (0, .nameAndType 5 6), (0, u "java/lang/Object"), (0, u "<init>"), (0, u "()V"), (0, .fieldref 8 9), (0, .class_ 10), (0, .nameAndType 11 12), (0, u "java/lang/Throwable"), (0, u "cause"), (0, u "Ljava/lang/Throwable;"), (0, .fieldref 8 14), (0, .nameAndType 15 16), (0, u "UNASSIGNED_STACK"), (0, u "[Ljava/lang/StackTraceElement;"), (0, .fieldref 8 18), (0, .nameAndType 19 16), (0, u "stackTrace"), (0, .fieldref 8 21), (0, .nameAndType 22 23), (0, u "SUPPRESSED_SENTINEL"), (0, u "Ljava/util/List;"), (0, .fieldref 8 25), (0, .nameAndType 26 23), (0, u "suppressedExceptions"), (0, .methodref 8 28), (0, .nameAndType 29 30), (0, u "fillInStackTrace"), (0, u "()Ljava/lang/Throwable;"), (0, .fieldref 8 32), (0, .nameAndType 33 34), (0, u "detailMessage"), (0, u "Ljava/lang/String;"), (3, u "()Ljava/lang/String;"), (2, u "getMessage"), (51, .class_ 94), (0, u "java/lang/Throwable$WrappedPrintStream"), (6, .class_ 103), (1, u "java/lang/Throwable$PrintStreamOrWriter"), (54, u "getCause"), (6, u "$assertionsDisabled"), (0, u "Z"), (26, .class_ 194), (0, u "java/lang/Throwable$WrappedPrintWriter"), (3, .fieldref 8 199), (0, .nameAndType 200 201), (0, u "backtrace"), (0, u "Ljava/lang/Object;"), (0, .methodref 8 203), (0, .nameAndType 29 204), (0, u "(I)Ljava/lang/Throwable;"), (6, u "depth"), (0, u "I"), (10, u "(Ljava/lang/String;)V"), (45, .class_ 271), (1, u "java/lang/Throwable$SentinelHolder"), (32, u "EMPTY_THROWABLE_ARRAY"), (0, u "[Ljava/lang/Throwable;"), (12, .class_ 319), (0, u "java/io/Serializable"), (0, u "serialVersionUID"), (0, u "J"), (5, u "NULL_CAUSE_MESSAGE"), (0, u "SELF_SUPPRESSION_MESSAGE"), (0, u "CAUSE_CAPTION"), (0, u "SUPPRESSED_CAPTION")] 73

def k4c0 : Code := { maxStack := 2, maxLocals := 1, code := jdk_78_method_1_code, exceptionTable := #[], attributes := #[] }
def k4m0 : Method := { name := "<init>", desc := "()V", sig := { parameters := [], returnType := none }, accessFlags := 1, code := some k4c0 }
def k4c1 : Code := { maxStack := 2, maxLocals := 2, code := jdk_78_method_2_code, exceptionTable := #[], attributes := #[] }
def k4m1 : Method := { name := "<init>", desc := "(Ljava/lang/String;)V", sig := { parameters := [(.object "java/lang/String")], returnType := none }, accessFlags := 1, code := some k4c1 }
def k4c2 : Code := { maxStack := 1, maxLocals := 1, code := jdk_78_method_6_code, exceptionTable := #[], attributes := #[] }
def k4m2 : Method := { name := "getMessage", desc := "()Ljava/lang/String;", sig := { parameters := [], returnType := some (.object "java/lang/String") }, accessFlags := 1, code := some k4c2 }
def k4c3 : Code := { maxStack := 2, maxLocals := 1, code := ⟨#[0x2a, 0xb4, 0x00, 0x07, 0x2a, 0xa6, 0x00, 0x07, 0x01, 0xa7, 0x00, 0x07, 0x2a, 0xb4, 0x00, 0x07, 0xb0]⟩, exceptionTable := #[], attributes := #[] }
def k4m3 : Method := { name := "getCause", desc := "()Ljava/lang/Throwable;", sig := { parameters := [], returnType := some (.object "java/lang/Throwable") }, accessFlags := 33, code := some k4c3 }
def k4c4 : Code := { maxStack := 2, maxLocals := 1, code := ⟨#[0x2a, 0xb4, 0x00, 0x11, 0xc7, 0x00, 0x0a, 0x2a, 0xb4, 0x00, 0xc6, 0xc6, 0x00, 0x10, 0x2a, 0x03, 0xb6, 0x00, 0xca, 0x57, 0x2a, 0xb2, 0x00, 0x0d, 0xb5, 0x00, 0x11, 0x2a, 0xb0]⟩, exceptionTable := #[], attributes := #[] }
def k4m4 : Method := { name := "fillInStackTrace", desc := "()Ljava/lang/Throwable;", sig := { parameters := [], returnType := some (.object "java/lang/Throwable") }, accessFlags := 33, code := some k4c4 }
def k4m5 : Method := { name := "fillInStackTrace", desc := "(I)Ljava/lang/Throwable;", sig := { parameters := [.int], returnType := some (.object "java/lang/Throwable") }, accessFlags := 258, code := none }
/-- java/lang/Throwable -/
def k4 : Class := { plain "java/lang/Throwable" (some 0) with
  accessFlags := 33
  interfaces := #[3]
  cf := some (fileOf pool4 8 #[.nestMembers #[193, 93, 101, 269]] #[{ accessFlags := 1, nameIndex := 5, descriptorIndex := 6, attributes := #[] }, { accessFlags := 1, nameIndex := 5, descriptorIndex := 223, attributes := #[] }, { accessFlags := 1, nameIndex := 41, descriptorIndex := 38, attributes := #[] }, { accessFlags := 33, nameIndex := 158, descriptorIndex := 30, attributes := #[] }, { accessFlags := 33, nameIndex := 29, descriptorIndex := 30, attributes := #[] }, { accessFlags := 258, nameIndex := 29, descriptorIndex := 204, attributes := #[] }] 33 2 #[318] #[{ accessFlags := 26, nameIndex := 320, descriptorIndex := 321, attributes := #[] }, { accessFlags := 130, nameIndex := 200, descriptorIndex := 201, attributes := #[] }, { accessFlags := 2, nameIndex := 33, descriptorIndex := 34, attributes := #[] }, { accessFlags := 26, nameIndex := 15, descriptorIndex := 16, attributes := #[] }, { accessFlags := 2, nameIndex := 11, descriptorIndex := 12, attributes := #[] }, { accessFlags := 2, nameIndex := 19, descriptorIndex := 16, attributes := #[] }, { accessFlags := 130, nameIndex := 211, descriptorIndex := 212, attributes := #[] }, { accessFlags := 26, nameIndex := 22, descriptorIndex := 23, attributes := #[] }, { accessFlags := 2, nameIndex := 26, descriptorIndex := 23, attributes := #[] }, { accessFlags := 26, nameIndex := 327, descriptorIndex := 34, attributes := #[] }, { accessFlags := 26, nameIndex := 328, descriptorIndex := 34, attributes := #[] }, { accessFlags := 26, nameIndex := 329, descriptorIndex := 34, attributes := #[] }, { accessFlags := 26, nameIndex := 330, descriptorIndex := 34, attributes := #[] }, { accessFlags := 26, nameIndex := 304, descriptorIndex := 305, attributes := #[] }, { accessFlags := 4120, nameIndex := 165, descriptorIndex := 166, attributes := #[] }])
  fields := #[{ name := "serialVersionUID", type := .long, accessFlags := 26, slot := 0, constantValue := 0 }, { name := "backtrace", type := (.object "java/lang/Object"), accessFlags := 130, slot := 0, constantValue := 0 }, { name := "detailMessage", type := (.object "java/lang/String"), accessFlags := 2, slot := 1, constantValue := 0 }, { name := "UNASSIGNED_STACK", type := (.array (.object "java/lang/StackTraceElement")), accessFlags := 26, slot := 1, constantValue := 0 }, { name := "cause", type := (.object "java/lang/Throwable"), accessFlags := 2, slot := 2, constantValue := 0 }, { name := "stackTrace", type := (.array (.object "java/lang/StackTraceElement")), accessFlags := 2, slot := 3, constantValue := 0 }, { name := "depth", type := .int, accessFlags := 130, slot := 4, constantValue := 0 }, { name := "SUPPRESSED_SENTINEL", type := (.object "java/util/List"), accessFlags := 26, slot := 2, constantValue := 0 }, { name := "suppressedExceptions", type := (.object "java/util/List"), accessFlags := 2, slot := 5, constantValue := 0 }, { name := "NULL_CAUSE_MESSAGE", type := (.object "java/lang/String"), accessFlags := 26, slot := 3, constantValue := 0 }, { name := "SELF_SUPPRESSION_MESSAGE", type := (.object "java/lang/String"), accessFlags := 26, slot := 4, constantValue := 0 }, { name := "CAUSE_CAPTION", type := (.object "java/lang/String"), accessFlags := 26, slot := 5, constantValue := 0 }, { name := "SUPPRESSED_CAPTION", type := (.object "java/lang/String"), accessFlags := 26, slot := 6, constantValue := 0 }, { name := "EMPTY_THROWABLE_ARRAY", type := (.array (.object "java/lang/Throwable")), accessFlags := 26, slot := 7, constantValue := 0 }, { name := "$assertionsDisabled", type := .boolean, accessFlags := 4120, slot := 8, constantValue := 0 }]
  methods := #[k4m0, k4m1, k4m2, k4m3, k4m4, k4m5]
  instanceTypes := #[(.object "java/lang/Object"), (.object "java/lang/String"), (.object "java/lang/Throwable"), (.array (.object "java/lang/StackTraceElement")), .int, (.object "java/util/List")]
  staticTypes := #[.long, (.array (.object "java/lang/StackTraceElement")), (.object "java/util/List"), (.object "java/lang/String"), (.object "java/lang/String"), (.object "java/lang/String"), (.object "java/lang/String"), (.array (.object "java/lang/Throwable")), .boolean]
  resolved := Array.replicate 404 none
  statics := some 0 }

def pool5 : Array CpInfo := pool [(2, .class_ 4), (1, u "java/lang/Throwable"), (0, u "<init>"), (0, u "()V"), (0, .methodref 2 8), (0, .nameAndType 5 9), (0, u "(Ljava/lang/String;)V"), (9, .class_ 20), (0, u "java/lang/Exception"), (0, u "serialVersionUID"), (0, u "J")] 17

def k5m0 : Method := { name := "<init>", desc := "()V", sig := { parameters := [], returnType := none }, accessFlags := 1, code := none }
def k5c1 : Code := { maxStack := 2, maxLocals := 2, code := jdk_59_method_2_code, exceptionTable := #[], attributes := #[] }
def k5m1 : Method := { name := "<init>", desc := "(Ljava/lang/String;)V", sig := { parameters := [(.object "java/lang/String")], returnType := none }, accessFlags := 1, code := some k5c1 }
/-- java/lang/Exception -/
def k5 : Class := { plain "java/lang/Exception" (some 4) with
  accessFlags := 33
  interfaces := #[]
  cf := some (fileOf pool5 19 #[] #[{ accessFlags := 1, nameIndex := 5, descriptorIndex := 6, attributes := #[] }, { accessFlags := 1, nameIndex := 5, descriptorIndex := 9, attributes := #[] }] 33 2 #[] #[{ accessFlags := 24, nameIndex := 21, descriptorIndex := 22, attributes := #[] }])
  fields := #[{ name := "serialVersionUID", type := .long, accessFlags := 24, slot := 0, constantValue := 0 }]
  methods := #[k5m0, k5m1]
  instanceTypes := #[(.object "java/lang/Object"), (.object "java/lang/String"), (.object "java/lang/Throwable"), (.array (.object "java/lang/StackTraceElement")), .int, (.object "java/util/List")]
  staticTypes := #[.long]
  resolved := Array.replicate 40 none
  statics := none }

def pool6 : Array CpInfo := pool [(2, .class_ 4), (1, u "java/lang/Exception"), (0, u "<init>"), (0, u "()V"), (0, .methodref 2 8), (0, .nameAndType 5 9), (0, u "(Ljava/lang/String;)V"), (6, .class_ 17), (0, u "java/io/IOException"), (0, u "serialVersionUID"), (0, u "J")] 14

def k6m0 : Method := { name := "<init>", desc := "()V", sig := { parameters := [], returnType := none }, accessFlags := 1, code := none }
def k6c1 : Code := { maxStack := 2, maxLocals := 2, code := jdk_131_method_2_code, exceptionTable := #[], attributes := #[] }
def k6m1 : Method := { name := "<init>", desc := "(Ljava/lang/String;)V", sig := { parameters := [(.object "java/lang/String")], returnType := none }, accessFlags := 1, code := some k6c1 }
/-- java/io/IOException -/
def k6 : Class := { plain "java/io/IOException" (some 5) with
  accessFlags := 33
  interfaces := #[]
  cf := some (fileOf pool6 16 #[] #[{ accessFlags := 1, nameIndex := 5, descriptorIndex := 6, attributes := #[] }, { accessFlags := 1, nameIndex := 5, descriptorIndex := 9, attributes := #[] }] 33 2 #[] #[{ accessFlags := 24, nameIndex := 18, descriptorIndex := 19, attributes := #[] }])
  fields := #[{ name := "serialVersionUID", type := .long, accessFlags := 24, slot := 0, constantValue := 0 }]
  methods := #[k6m0, k6m1]
  instanceTypes := #[(.object "java/lang/Object"), (.object "java/lang/String"), (.object "java/lang/Throwable"), (.array (.object "java/lang/StackTraceElement")), .int, (.object "java/util/List")]
  staticTypes := #[.long]
  resolved := Array.replicate 34 none
  statics := none }

def pool7 : Array CpInfo := pool [(1, .class_ 2), (0, u "java/lang/Appendable"), (0, .class_ 4), (0, u "java/lang/Object")] 9

/-- java/lang/Appendable -/
def k7 : Class := { plain "java/lang/Appendable" (some 0) with
  accessFlags := 1537
  interfaces := #[]
  cf := some (fileOf pool7 1 #[] #[] 1537 3 #[] #[])
  fields := #[]
  methods := #[]
  instanceTypes := #[]
  staticTypes := #[]
  resolved := Array.replicate 14 none
  statics := none }

def pool8 : Array CpInfo := pool [(2, .class_ 4), (1, u "java/lang/CharSequence"), (42, .class_ 48), (0, u "java/lang/CharSequence$1CodePointIterator"), (10, .class_ 60), (0, u "java/lang/CharSequence$1CharIterator"), (5, .class_ 67), (0, u "java/lang/Object")] 63

/-- java/lang/CharSequence -/
def k8 : Class := { plain "java/lang/CharSequence" (some 0) with
  accessFlags := 1537
  interfaces := #[]
  cf := some (fileOf pool8 2 #[.nestMembers #[47, 59]] #[] 1537 66 #[] #[])
  fields := #[]
  methods := #[]
  instanceTypes := #[]
  staticTypes := #[]
  resolved := Array.replicate 131 none
  statics := none }

def pool9 : Array CpInfo := pool [(1, .class_ 2), (0, u "java/lang/String"), (0, .methodref 4 5), (0, .class_ 6), (0, .nameAndType 7 8), (0, u "java/lang/Object"), (0, u "<init>"), (0, u "()V"), (1, .class_ 12), (1, u "java/lang/AbstractStringBuilder"), (0, u "EMPTYVALUE"), (0, u "[B"), (0, .fieldref 10 16), (0, .nameAndType 17 14), (0, u "value"), (0, .fieldref 1 19), (0, .nameAndType 20 21), (0, u "COMPACT_STRINGS"), (0, u "Z"), (0, .fieldref 10 23), (0, .nameAndType 24 25), (0, u "coder"), (0, u "B"), (6, .methodref 1 33), (0, .nameAndType 34 35), (0, u "length"), (0, u "()I"), (0, .class_ 37), (0, u "java/lang/Integer"), (1, .integer 2147483647), (0, .methodref 1 41), (0, .nameAndType 24 42), (0, u "()B"), (2, u "append"), (0, u "(Ljava/lang/String;)Ljava/lang/AbstractStringBuilder;"), (1, .class_ 49), (0, u "java/lang/CharSequence"), (19, u "(Ljava/lang/String;)V"), (5, u "maybeLatin1"), (3, .fieldref 10 80), (0, .nameAndType 81 82), (0, u "count"), (0, u "I"), (0, .methodref 10 84), (0, .nameAndType 85 86), (0, u "isLatin1"), (0, u "()Z"), (13, .methodref 10 101), (0, .nameAndType 102 103), (0, u "ensureCapacityInternal"), (0, u "(I)V"), (0, .methodref 10 105), (0, .nameAndType 106 107), (0, u "newCapacity"), (0, u "(I)I"), (0, .methodref 109 110), (0, .class_ 111), (0, .nameAndType 112 113), (0, u "java/util/Arrays"), (0, u "copyOf"), (0, u "([BI)[B"), (0, .methodref 115 116), (0, .class_ 117), (0, .nameAndType 118 119), (0, u "jdk/internal/util/ArraysSupport"), (0, u "newLength"), (0, u "(III)I"), (68, u "getChars"), (19, .methodref 10 209), (0, .nameAndType 210 211), (0, u "putStringAt"), (0, u "(ILjava/lang/String;)V"), (5, u "inflateIfNeededFor"), (2, .nameAndType 221 222), (0, u "getBytes"), (0, u "([BIB)V"), (22, .methodref 36 246), (0, .nameAndType 247 107), (0, u "stringSize"), (0, .methodref 36 249), (0, .nameAndType 188 250), (0, u "(II[B)I"), (146, .methodref 10 398), (0, .nameAndType 217 69), (0, .methodref 1 220), (3, u "()[B"), (40, .class_ 445), (0, u "java/lang/Appendable"), (65, u "(I)Ljava/lang/AbstractStringBuilder;"), (40, u "getValue")] 56

def k9m0 : Method := { name := "<init>", desc := "()V", sig := { parameters := [], returnType := none }, accessFlags := 0, code := none }
def k9c1 : Code := { maxStack := 2, maxLocals := 2, code := jdk_68_method_2_code, exceptionTable := #[], attributes := #[] }
def k9m1 : Method := { name := "<init>", desc := "(I)V", sig := { parameters := [.int], returnType := none }, accessFlags := 0, code := some k9c1 }
def k9c2 : Code := { maxStack := 1, maxLocals := 1, code := jdk_68_method_6_code, exceptionTable := #[], attributes := #[] }
def k9m2 : Method := { name := "length", desc := "()I", sig := { parameters := [], returnType := some .int }, accessFlags := 1, code := some k9c2 }
def k9c3 : Code := { maxStack := 4, maxLocals := 3, code := jdk_68_method_9_code, exceptionTable := #[], attributes := #[] }
def k9m3 : Method := { name := "ensureCapacityInternal", desc := "(I)V", sig := { parameters := [.int], returnType := none }, accessFlags := 2, code := some k9c3 }
def k9c4 : Code := { maxStack := 5, maxLocals := 6, code := jdk_68_method_10_code, exceptionTable := #[], attributes := #[] }
def k9m4 : Method := { name := "newCapacity", desc := "(I)I", sig := { parameters := [.int], returnType := some .int }, accessFlags := 2, code := some k9c4 }
def k9c5 : Code := { maxStack := 3, maxLocals := 3, code := jdk_68_method_22_code, exceptionTable := #[], attributes := #[] }
def k9m5 : Method := { name := "append", desc := "(Ljava/lang/String;)Ljava/lang/AbstractStringBuilder;", sig := { parameters := [(.object "java/lang/String")], returnType := some (.object "java/lang/AbstractStringBuilder") }, accessFlags := 1, code := some k9c5 }
def k9c6 : Code := { maxStack := 4, maxLocals := 4, code := jdk_68_method_32_code, exceptionTable := #[], attributes := #[] }
def k9m6 : Method := { name := "append", desc := "(I)Ljava/lang/AbstractStringBuilder;", sig := { parameters := [.int], returnType := some (.object "java/lang/AbstractStringBuilder") }, accessFlags := 1, code := some k9c6 }
def k9c7 : Code := { maxStack := 1, maxLocals := 1, code := jdk_68_method_64_code, exceptionTable := #[], attributes := #[] }
def k9m7 : Method := { name := "getValue", desc := "()[B", sig := { parameters := [], returnType := some (.array .byte) }, accessFlags := 16, code := some k9c7 }
def k9c8 : Code := { maxStack := 1, maxLocals := 1, code := jdk_68_method_68_code, exceptionTable := #[], attributes := #[] }
def k9m8 : Method := { name := "isLatin1", desc := "()Z", sig := { parameters := [], returnType := some .boolean }, accessFlags := 16, code := some k9c8 }
def k9c9 : Code := { maxStack := 2, maxLocals := 2, code := jdk_68_method_71_code, exceptionTable := #[], attributes := #[] }
def k9m9 : Method := { name := "inflateIfNeededFor", desc := "(Ljava/lang/String;)V", sig := { parameters := [(.object "java/lang/String")], returnType := none }, accessFlags := 2, code := some k9c9 }
def k9c10 : Code := { maxStack := 4, maxLocals := 3, code := jdk_68_method_73_code, exceptionTable := #[], attributes := #[] }
def k9m10 : Method := { name := "putStringAt", desc := "(ILjava/lang/String;)V", sig := { parameters := [.int, (.object "java/lang/String")], returnType := none }, accessFlags := 2, code := some k9c10 }
/-- java/lang/AbstractStringBuilder -/
def k9 : Class := { plain "java/lang/AbstractStringBuilder" (some 0) with
  accessFlags := 1056
  interfaces := #[7, 8]
  cf := some (fileOf pool9 10 #[] #[{ accessFlags := 0, nameIndex := 7, descriptorIndex := 8, attributes := #[] }, { accessFlags := 0, nameIndex := 7, descriptorIndex := 103, attributes := #[] }, { accessFlags := 1, nameIndex := 34, descriptorIndex := 35, attributes := #[] }, { accessFlags := 2, nameIndex := 102, descriptorIndex := 103, attributes := #[] }, { accessFlags := 2, nameIndex := 106, descriptorIndex := 107, attributes := #[] }, { accessFlags := 1, nameIndex := 45, descriptorIndex := 46, attributes := #[] }, { accessFlags := 1, nameIndex := 45, descriptorIndex := 511, attributes := #[] }, { accessFlags := 16, nameIndex := 552, descriptorIndex := 403, attributes := #[] }, { accessFlags := 16, nameIndex := 85, descriptorIndex := 86, attributes := #[] }, { accessFlags := 2, nameIndex := 217, descriptorIndex := 69, attributes := #[] }, { accessFlags := 2, nameIndex := 210, descriptorIndex := 211, attributes := #[] }] 1056 4 #[444, 48] #[{ accessFlags := 0, nameIndex := 17, descriptorIndex := 14, attributes := #[] }, { accessFlags := 0, nameIndex := 24, descriptorIndex := 25, attributes := #[] }, { accessFlags := 0, nameIndex := 75, descriptorIndex := 21, attributes := #[] }, { accessFlags := 0, nameIndex := 81, descriptorIndex := 82, attributes := #[] }, { accessFlags := 26, nameIndex := 13, descriptorIndex := 14, attributes := #[] }])
  fields := #[{ name := "value", type := (.array .byte), accessFlags := 0, slot := 0, constantValue := 0 }, { name := "coder", type := .byte, accessFlags := 0, slot := 1, constantValue := 0 }, { name := "maybeLatin1", type := .boolean, accessFlags := 0, slot := 2, constantValue := 0 }, { name := "count", type := .int, accessFlags := 0, slot := 3, constantValue := 0 }, { name := "EMPTYVALUE", type := (.array .byte), accessFlags := 26, slot := 0, constantValue := 0 }]
  methods := #[k9m0, k9m1, k9m2, k9m3, k9m4, k9m5, k9m6, k9m7, k9m8, k9m9, k9m10]
  instanceTypes := #[(.array .byte), .byte, .boolean, .int]
  staticTypes := #[(.array .byte)]
  resolved := Array.replicate 609 none
  statics := none }

def pool10 : Array CpInfo := pool [(1, .class_ 2), (0, u "java/lang/Comparable"), (0, .class_ 4), (0, u "java/lang/Object")] 7

/-- java/lang/Comparable -/
def k10 : Class := { plain "java/lang/Comparable" (some 0) with
  accessFlags := 1537
  interfaces := #[]
  cf := some (fileOf pool10 1 #[] #[] 1537 3 #[] #[])
  fields := #[]
  methods := #[]
  instanceTypes := #[]
  staticTypes := #[]
  resolved := Array.replicate 12 none
  statics := none }

def pool11 : Array CpInfo := pool [(1, .methodref 2 3), (0, .class_ 4), (0, .nameAndType 5 6), (0, u "java/lang/AbstractStringBuilder"), (0, u "<init>"), (0, u "(I)V"), (11, .class_ 20), (1, u "java/lang/String"), (3, .class_ 26), (1, u "java/lang/StringBuilder"), (0, u "append"), (0, u "(Ljava/lang/String;)Ljava/lang/StringBuilder;"), (0, .methodref 2 30), (0, .nameAndType 27 31), (0, u "(Ljava/lang/String;)Ljava/lang/AbstractStringBuilder;"), (21, .methodref 2 54), (0, .nameAndType 27 55), (0, u "(I)Ljava/lang/AbstractStringBuilder;"), (81, .methodref 18 138), (0, .nameAndType 5 139), (0, u "(Ljava/lang/StringBuilder;)V"), (5, u "()V"), (10, u "()I"), (111, u "(I)Ljava/lang/StringBuilder;"), (74, .methodref 2 344), (0, .nameAndType 345 156), (0, u "length"), (3, .class_ 350), (0, u "java/lang/Appendable"), (0, .class_ 352), (0, u "java/io/Serializable"), (0, .class_ 354), (0, u "java/lang/Comparable"), (0, .class_ 356), (0, u "java/lang/CharSequence"), (0, u "serialVersionUID"), (0, u "J"), (40, u "toString"), (0, u "()Ljava/lang/String;")] 21

def k11c0 : Code := { maxStack := 2, maxLocals := 1, code := jdk_67_method_1_code, exceptionTable := #[], attributes := #[] }
def k11m0 : Method := { name := "<init>", desc := "()V", sig := { parameters := [], returnType := none }, accessFlags := 1, code := some k11c0 }
def k11c1 : Code := { maxStack := 2, maxLocals := 2, code := jdk_67_method_7_code, exceptionTable := #[], attributes := #[] }
def k11m1 : Method := { name := "append", desc := "(Ljava/lang/String;)Ljava/lang/StringBuilder;", sig := { parameters := [(.object "java/lang/String")], returnType := some (.object "java/lang/StringBuilder") }, accessFlags := 1, code := some k11c1 }
def k11c2 : Code := { maxStack := 2, maxLocals := 2, code := jdk_67_method_15_code, exceptionTable := #[], attributes := #[] }
def k11m2 : Method := { name := "append", desc := "(I)Ljava/lang/StringBuilder;", sig := { parameters := [.int], returnType := some (.object "java/lang/StringBuilder") }, accessFlags := 1, code := some k11c2 }
def k11c3 : Code := { maxStack := 3, maxLocals := 1, code := jdk_67_method_42_code, exceptionTable := #[], attributes := #[] }
def k11m3 : Method := { name := "toString", desc := "()Ljava/lang/String;", sig := { parameters := [], returnType := some (.object "java/lang/String") }, accessFlags := 1, code := some k11c3 }
def k11c4 : Code := { maxStack := 1, maxLocals := 1, code := jdk_67_method_93_code, exceptionTable := #[], attributes := #[] }
def k11m4 : Method := { name := "length", desc := "()I", sig := { parameters := [], returnType := some .int }, accessFlags := 4161, code := some k11c4 }
/-- java/lang/StringBuilder -/
def k11 : Class := { plain "java/lang/StringBuilder" (some 9) with
  accessFlags := 49
  interfaces := #[7, 3, 10, 8]
  cf := some (fileOf pool11 24 #[] #[{ accessFlags := 1, nameIndex := 5, descriptorIndex := 145, attributes := #[] }, { accessFlags := 1, nameIndex := 27, descriptorIndex := 28, attributes := #[] }, { accessFlags := 1, nameIndex := 27, descriptorIndex := 268, attributes := #[] }, { accessFlags := 1, nameIndex := 399, descriptorIndex := 400, attributes := #[] }, { accessFlags := 4161, nameIndex := 345, descriptorIndex := 156, attributes := #[] }] 49 2 #[349, 351, 353, 355] #[{ accessFlags := 24, nameIndex := 357, descriptorIndex := 358, attributes := #[] }])
  fields := #[{ name := "serialVersionUID", type := .long, accessFlags := 24, slot := 0, constantValue := 0 }]
  methods := #[k11m0, k11m1, k11m2, k11m3, k11m4]
  instanceTypes := #[(.array .byte), .byte, .boolean, .int]
  staticTypes := #[.long]
  resolved := Array.replicate 422 none
  statics := none }

def pool12 : Array CpInfo := pool [(1, .class_ 2), (0, u "java/lang/constant/Constable"), (0, .class_ 4), (0, u "java/lang/Object")] 6

/-- java/lang/constant/Constable -/
def k12 : Class := { plain "java/lang/constant/Constable" (some 0) with
  accessFlags := 1537
  interfaces := #[]
  cf := some (fileOf pool12 1 #[] #[] 1537 3 #[] #[])
  fields := #[]
  methods := #[]
  instanceTypes := #[]
  staticTypes := #[]
  resolved := Array.replicate 11 none
  statics := none }

def pool13 : Array CpInfo := pool [(1, .class_ 2), (0, u "java/lang/constant/ConstantDesc"), (0, .class_ 4), (0, u "java/lang/Object")] 32

/-- java/lang/constant/ConstantDesc -/
def k13 : Class := { plain "java/lang/constant/ConstantDesc" (some 0) with
  accessFlags := 1537
  interfaces := #[]
  cf := some (fileOf pool13 1 #[] #[] 1537 3 #[] #[])
  fields := #[]
  methods := #[]
  instanceTypes := #[]
  staticTypes := #[]
  resolved := Array.replicate 37 none
  statics := none }

def pool14 : Array CpInfo := pool [(1, .methodref 2 3), (0, .class_ 4), (0, .nameAndType 5 6), (0, u "java/lang/Object"), (0, u "<init>"), (0, u "()V"), (2, .fieldref 10 11), (0, .class_ 12), (0, .nameAndType 13 14), (0, u "java/lang/String"), (0, u "value"), (0, u "[B"), (0, .fieldref 10 16), (0, .nameAndType 17 18), (0, u "coder"), (0, u "B"), (2, u "hash"), (0, u "I"), (2, u "hashIsZero"), (0, u "Z"), (11, .fieldref 10 39), (0, .nameAndType 40 26), (0, u "COMPACT_STRINGS"), (13, .methodref 55 56), (0, .class_ 57), (0, .nameAndType 58 59), (0, u "java/util/Arrays"), (0, u "copyOfRange"), (0, u "([BII)[B"), (47, .class_ 109), (1, u "java/lang/StringLatin1"), (32, u "()Z"), (50, .class_ 195), (1, u "java/lang/System"), (16, .methodref 193 213), (0, .nameAndType 214 215), (0, u "arraycopy"), (0, u "(Ljava/lang/Object;ILjava/lang/Object;II)V"), (118, u "()I"), (0, .methodref 10 336), (0, .nameAndType 17 337), (0, u "()B"), (2, u "()[B"), (22, u "([BI)C"), (27, u "(II)V"), (35, u "(I)C"), (61, .methodref 10 490), (0, .nameAndType 5 491), (0, u "(Ljava/lang/AbstractStringBuilder;Ljava/lang/Void;)V"), (0, .methodref 10 493), (0, .nameAndType 494 142), (0, u "isLatin1"), (0, .methodref 107 496), (0, .nameAndType 497 363), (0, u "charAt"), (3, u "checkIndex"), (4, .nameAndType 507 334), (0, u "length"), (24, u "getBytes"), (16, .methodref 550 506), (0, .class_ 551), (0, u "java/lang/AbstractStringBuilder"), (0, .methodref 550 553), (0, .nameAndType 554 340), (0, u "getValue"), (20, .class_ 576), (0, u "java/lang/CharSequence"), (22, u "CASE_INSENSITIVE_ORDER"), (0, u "Ljava/util/Comparator;"), (220, u "([BIB)V"), (225, .methodref 550 493), (5, .fieldref 1054 1055), (0, .class_ 1056), (0, .nameAndType 1057 1058), (0, u "jdk/internal/util/Preconditions"), (0, u "SIOOBE_FORMATTER"), (0, u "Ljava/util/function/BiFunction;"), (0, .methodref 1054 1060), (0, .nameAndType 501 1061), (0, u "(IILjava/util/function/BiFunction;)I"), (39, u "serialPersistentFields"), (0, u "[Ljava/io/ObjectStreamField;"), (0, .class_ 1104), (0, u "java/lang/String$CaseInsensitiveComparator"), (1, .class_ 1107), (0, u "java/io/Serializable"), (0, .class_ 1109), (0, u "java/lang/Comparable"), (0, .class_ 1111), (0, u "java/lang/constant/Constable"), (0, .class_ 1113), (0, u "java/lang/constant/ConstantDesc"), (2, u "serialVersionUID"), (0, u "J"), (3, u "REPL"), (0, u "C"), (2, u "LATIN1"), (1, u "UTF16"), (105, u "(Ljava/lang/StringBuilder;)V")] 217

def k14m0 : Method := { name := "<init>", desc := "()V", sig := { parameters := [], returnType := none }, accessFlags := 1, code := none }
def k14c1 : Code := { maxStack := 3, maxLocals := 2, code := jdk_42_method_53_code, exceptionTable := #[], attributes := #[] }
def k14m1 : Method := { name := "<init>", desc := "(Ljava/lang/StringBuilder;)V", sig := { parameters := [(.object "java/lang/StringBuilder")], returnType := none }, accessFlags := 1, code := some k14c1 }
def k14c2 : Code := { maxStack := 2, maxLocals := 1, code := jdk_42_method_54_code, exceptionTable := #[], attributes := #[] }
def k14m2 : Method := { name := "length", desc := "()I", sig := { parameters := [], returnType := some .int }, accessFlags := 1, code := some k14c2 }
def k14c3 : Code := { maxStack := 2, maxLocals := 2, code := jdk_42_method_56_code, exceptionTable := #[], attributes := #[] }
def k14m3 : Method := { name := "charAt", desc := "(I)C", sig := { parameters := [.int], returnType := some .char }, accessFlags := 1, code := some k14c3 }
def k14c4 : Code := { maxStack := 5, maxLocals := 4, code := jdk_42_method_147_code, exceptionTable := #[], attributes := #[] }
def k14m4 : Method := { name := "getBytes", desc := "([BIB)V", sig := { parameters := [(.array .byte), .int, .byte], returnType := none }, accessFlags := 0, code := some k14c4 }
def k14c5 : Code := { maxStack := 5, maxLocals := 5, code := jdk_42_method_150_code, exceptionTable := #[], attributes := #[] }
def k14m5 : Method := { name := "<init>", desc := "(Ljava/lang/AbstractStringBuilder;Ljava/lang/Void;)V", sig := { parameters := [(.object "java/lang/AbstractStringBuilder"), (.object "java/lang/Void")], returnType := none }, accessFlags := 0, code := some k14c5 }
def k14c6 : Code := { maxStack := 1, maxLocals := 1, code := jdk_42_method_152_code, exceptionTable := #[], attributes := #[] }
def k14m6 : Method := { name := "coder", desc := "()B", sig := { parameters := [], returnType := some .byte }, accessFlags := 0, code := some k14c6 }
def k14c7 : Code := { maxStack := 1, maxLocals := 1, code := jdk_42_method_154_code, exceptionTable := #[], attributes := #[] }
def k14m7 : Method := { name := "isLatin1", desc := "()Z", sig := { parameters := [], returnType := some .boolean }, accessFlags := 0, code := some k14c7 }
def k14c8 : Code := { maxStack := 3, maxLocals := 2, code := jdk_42_method_155_code, exceptionTable := #[], attributes := #[] }
def k14m8 : Method := { name := "checkIndex", desc := "(II)V", sig := { parameters := [.int, .int], returnType := none }, accessFlags := 8, code := some k14c8 }
/-- java/lang/String -/
def k14 : Class := { plain "java/lang/String" (some 0) with
  accessFlags := 49
  interfaces := #[3, 10, 8, 12, 13]
  cf := some (fileOf pool14 10 #[.nestMembers #[1103]] #[{ accessFlags := 1, nameIndex := 5, descriptorIndex := 6, attributes := #[] }, { accessFlags := 1, nameIndex := 5, descriptorIndex := 1233, attributes := #[] }, { accessFlags := 1, nameIndex := 507, descriptorIndex := 334, attributes := #[] }, { accessFlags := 1, nameIndex := 497, descriptorIndex := 427, attributes := #[] }, { accessFlags := 0, nameIndex := 532, descriptorIndex := 821, attributes := #[] }, { accessFlags := 0, nameIndex := 5, descriptorIndex := 491, attributes := #[] }, { accessFlags := 0, nameIndex := 17, descriptorIndex := 337, attributes := #[] }, { accessFlags := 0, nameIndex := 494, descriptorIndex := 142, attributes := #[] }, { accessFlags := 8, nameIndex := 501, descriptorIndex := 391, attributes := #[] }] 49 2 #[1106, 1108, 575, 1110, 1112] #[{ accessFlags := 18, nameIndex := 13, descriptorIndex := 14, attributes := #[] }, { accessFlags := 18, nameIndex := 17, descriptorIndex := 18, attributes := #[] }, { accessFlags := 2, nameIndex := 21, descriptorIndex := 22, attributes := #[] }, { accessFlags := 2, nameIndex := 25, descriptorIndex := 26, attributes := #[] }, { accessFlags := 26, nameIndex := 1116, descriptorIndex := 1117, attributes := #[] }, { accessFlags := 24, nameIndex := 40, descriptorIndex := 26, attributes := #[] }, { accessFlags := 26, nameIndex := 1101, descriptorIndex := 1102, attributes := #[] }, { accessFlags := 26, nameIndex := 1121, descriptorIndex := 1122, attributes := #[] }, { accessFlags := 25, nameIndex := 599, descriptorIndex := 600, attributes := #[] }, { accessFlags := 24, nameIndex := 1125, descriptorIndex := 18, attributes := #[] }, { accessFlags := 24, nameIndex := 1127, descriptorIndex := 18, attributes := #[] }])
  fields := #[{ name := "value", type := (.array .byte), accessFlags := 18, slot := 0, constantValue := 0 }, { name := "coder", type := .byte, accessFlags := 18, slot := 1, constantValue := 0 }, { name := "hash", type := .int, accessFlags := 2, slot := 2, constantValue := 0 }, { name := "hashIsZero", type := .boolean, accessFlags := 2, slot := 3, constantValue := 0 }, { name := "serialVersionUID", type := .long, accessFlags := 26, slot := 0, constantValue := 0 }, { name := "COMPACT_STRINGS", type := .boolean, accessFlags := 24, slot := 1, constantValue := 0 }, { name := "serialPersistentFields", type := (.array (.object "java/io/ObjectStreamField")), accessFlags := 26, slot := 2, constantValue := 0 }, { name := "REPL", type := .char, accessFlags := 26, slot := 3, constantValue := 0 }, { name := "CASE_INSENSITIVE_ORDER", type := (.object "java/util/Comparator"), accessFlags := 25, slot := 4, constantValue := 0 }, { name := "LATIN1", type := .byte, accessFlags := 24, slot := 5, constantValue := 0 }, { name := "UTF16", type := .byte, accessFlags := 24, slot := 6, constantValue := 0 }]
  methods := #[k14m0, k14m1, k14m2, k14m3, k14m4, k14m5, k14m6, k14m7, k14m8]
  instanceTypes := #[(.array .byte), .byte, .int, .boolean]
  staticTypes := #[.long, .boolean, (.array (.object "java/io/ObjectStreamField")), .char, (.object "java/util/Comparator"), .byte, .byte]
  resolved := Array.replicate 1451 none
  statics := some 1 }

def pool15 : Array CpInfo := pool [(2, .class_ 4), (1, u "java/lang/Object"), (0, u "<init>"), (0, u "()V"), (1, .class_ 10), (1, u "java/lang/System"), (0, u "allowSecurityManager"), (0, u "I"), (16, u "cons"), (0, u "Ljava/io/Console;"), (77, .class_ 110), (1, u "java/lang/System$CallersHolder"), (43, u "initialErrStream"), (0, u "Ljava/io/PrintStream;"), (19, u "security"), (0, u "Ljava/lang/SecurityManager;"), (31, .class_ 209), (0, u "java/lang/System$1"), (7, u "props"), (0, u "Ljava/util/Properties;"), (2, u "lineSeparator"), (0, u "Ljava/lang/String;"), (96, .class_ 321), (1, u "java/lang/System$LoggerFinder"), (5, .class_ 328), (0, u "java/lang/System$Logger"), (67, u "err"), (2, u "out"), (91, u "notSupportedJnuEncoding"), (15, u "in"), (17, u "initialIn"), (0, u "Ljava/io/InputStream;"), (35, u "bootLayer"), (0, u "Ljava/lang/ModuleLayer;"), (99, .class_ 664), (0, u "java/lang/System$2"), (9, u "NEVER"), (2, u "MAYBE"), (49, u "arraycopy"), (0, u "(Ljava/lang/Object;ILjava/lang/Object;II)V"), (72, .class_ 802), (0, u "java/lang/System$Logger$Level")] 31

def k15m0 : Method := { name := "<init>", desc := "()V", sig := { parameters := [], returnType := none }, accessFlags := 2, code := none }
def k15m1 : Method := { name := "arraycopy", desc := "(Ljava/lang/Object;ILjava/lang/Object;II)V", sig := { parameters := [(.object "java/lang/Object"), .int, (.object "java/lang/Object"), .int, .int], returnType := none }, accessFlags := 265, code := none }
/-- java/lang/System -/
def k15 : Class := { plain "java/lang/System" (some 0) with
  accessFlags := 49
  interfaces := #[]
  cf := some (fileOf pool15 8 #[.nestMembers #[319, 327, 801, 108, 663, 208]] #[{ accessFlags := 2, nameIndex := 5, descriptorIndex := 6, attributes := #[] }, { accessFlags := 265, nameIndex := 727, descriptorIndex := 728, attributes := #[] }] 49 2 #[] #[{ accessFlags := 25, nameIndex := 507, descriptorIndex := 526, attributes := #[] }, { accessFlags := 25, nameIndex := 399, descriptorIndex := 155, attributes := #[] }, { accessFlags := 25, nameIndex := 396, descriptorIndex := 155, attributes := #[] }, { accessFlags := 10, nameIndex := 525, descriptorIndex := 526, attributes := #[] }, { accessFlags := 26, nameIndex := 674, descriptorIndex := 12, attributes := #[] }, { accessFlags := 26, nameIndex := 677, descriptorIndex := 12, attributes := #[] }, { accessFlags := 10, nameIndex := 11, descriptorIndex := 12, attributes := #[] }, { accessFlags := 74, nameIndex := 175, descriptorIndex := 176, attributes := #[] }, { accessFlags := 10, nameIndex := 491, descriptorIndex := 222, attributes := #[] }, { accessFlags := 74, nameIndex := 29, descriptorIndex := 30, attributes := #[] }, { accessFlags := 74, nameIndex := 154, descriptorIndex := 155, attributes := #[] }, { accessFlags := 10, nameIndex := 217, descriptorIndex := 218, attributes := #[] }, { accessFlags := 10, nameIndex := 221, descriptorIndex := 222, attributes := #[] }, { accessFlags := 8, nameIndex := 562, descriptorIndex := 563, attributes := #[] }])
  fields := #[{ name := "in", type := (.object "java/io/InputStream"), accessFlags := 25, slot := 0, constantValue := 0 }, { name := "out", type := (.object "java/io/PrintStream"), accessFlags := 25, slot := 1, constantValue := 0 }, { name := "err", type := (.object "java/io/PrintStream"), accessFlags := 25, slot := 2, constantValue := 0 }, { name := "initialIn", type := (.object "java/io/InputStream"), accessFlags := 10, slot := 3, constantValue := 0 }, { name := "NEVER", type := .int, accessFlags := 26, slot := 4, constantValue := 0 }, { name := "MAYBE", type := .int, accessFlags := 26, slot := 5, constantValue := 0 }, { name := "allowSecurityManager", type := .int, accessFlags := 10, slot := 6, constantValue := 0 }, { name := "security", type := (.object "java/lang/SecurityManager"), accessFlags := 74, slot := 7, constantValue := 0 }, { name := "notSupportedJnuEncoding", type := (.object "java/lang/String"), accessFlags := 10, slot := 8, constantValue := 0 }, { name := "cons", type := (.object "java/io/Console"), accessFlags := 74, slot := 9, constantValue := 0 }, { name := "initialErrStream", type := (.object "java/io/PrintStream"), accessFlags := 74, slot := 10, constantValue := 0 }, { name := "props", type := (.object "java/util/Properties"), accessFlags := 10, slot := 11, constantValue := 0 }, { name := "lineSeparator", type := (.object "java/lang/String"), accessFlags := 10, slot := 12, constantValue := 0 }, { name := "bootLayer", type := (.object "java/lang/ModuleLayer"), accessFlags := 8, slot := 13, constantValue := 0 }]
  methods := #[k15m0, k15m1]
  instanceTypes := #[]
  staticTypes := #[(.object "java/io/InputStream"), (.object "java/io/PrintStream"), (.object "java/io/PrintStream"), (.object "java/io/InputStream"), .int, .int, .int, (.object "java/lang/SecurityManager"), (.object "java/lang/String"), (.object "java/io/Console"), (.object "java/io/PrintStream"), (.object "java/util/Properties"), (.object "java/lang/String"), (.object "java/lang/ModuleLayer")]
  resolved := Array.replicate 834 none
  statics := none }

def pool16 : Array CpInfo := pool [(2, .class_ 4), (1, u "java/lang/Object"), (0, u "<init>"), (0, u "()V"), (1, .class_ 10), (1, u "java/lang/Number"), (2, .class_ 14), (0, u "java/io/Serializable"), (0, u "serialVersionUID"), (0, u "J")] 20

def k16m0 : Method := { name := "<init>", desc := "()V", sig := { parameters := [], returnType := none }, accessFlags := 1, code := none }
/-- java/lang/Number -/
def k16 : Class := { plain "java/lang/Number" (some 0) with
  accessFlags := 1057
  interfaces := #[3]
  cf := some (fileOf pool16 8 #[] #[{ accessFlags := 1, nameIndex := 5, descriptorIndex := 6, attributes := #[] }] 1057 2 #[13] #[{ accessFlags := 26, nameIndex := 15, descriptorIndex := 16, attributes := #[] }])
  fields := #[{ name := "serialVersionUID", type := .long, accessFlags := 26, slot := 0, constantValue := 0 }]
  methods := #[k16m0]
  instanceTypes := #[]
  staticTypes := #[.long]
  resolved := Array.replicate 37 none
  statics := none }

def pool17 : Array CpInfo := pool [(1, .class_ 2), (0, u "java/lang/Integer"), (16, u "digits"), (0, u "[C"), (33, u "(I)I"), (19, u "stringSize"), (2, u "getChars"), (0, u "(II[B)I"), (4, .fieldref 1 84), (0, .nameAndType 85 86), (0, u "DigitOnes"), (0, u "[B"), (0, .fieldref 1 88), (0, .nameAndType 89 86), (0, u "DigitTens"), (99, .class_ 190), (0, u "java/lang/Integer$IntegerCache"), (3, u "I"), (8, .class_ 204), (0, u "java/lang/Number"), (2, u "value"), (94, u "TYPE"), (0, u "Ljava/lang/Class;"), (0, .class_ 305), (0, u "java/lang/Comparable"), (0, .class_ 307), (0, u "java/lang/constant/Constable"), (0, .class_ 309), (0, u "java/lang/constant/ConstantDesc"), (0, u "MIN_VALUE"), (1, u "MAX_VALUE"), (3, u "SIZE"), (1, u "BYTES"), (1, u "serialVersionUID"), (0, u "J")] 131

def k17c0 : Code := { maxStack := 4, maxLocals := 7, code := jdk_33_method_12_code, exceptionTable := #[], attributes := #[] }
def k17m0 : Method := { name := "getChars", desc := "(II[B)I", sig := { parameters := [.int, .int, (.array .byte)], returnType := some .int }, accessFlags := 8, code := some k17c0 }
def k17c1 : Code := { maxStack := 2, maxLocals := 4, code := jdk_33_method_13_code, exceptionTable := #[], attributes := #[] }
def k17m1 : Method := { name := "stringSize", desc := "(I)I", sig := { parameters := [.int], returnType := some .int }, accessFlags := 8, code := some k17c1 }
/-- java/lang/Integer -/
def k17 : Class := { plain "java/lang/Integer" (some 16) with
  accessFlags := 49
  interfaces := #[10, 12, 13]
  cf := some (fileOf pool17 1 #[.nestMembers #[189]] #[{ accessFlags := 8, nameIndex := 77, descriptorIndex := 78, attributes := #[] }, { accessFlags := 8, nameIndex := 74, descriptorIndex := 54, attributes := #[] }] 49 203 #[304, 306, 308] #[{ accessFlags := 25, nameIndex := 310, descriptorIndex := 194, attributes := #[] }, { accessFlags := 25, nameIndex := 312, descriptorIndex := 194, attributes := #[] }, { accessFlags := 25, nameIndex := 302, descriptorIndex := 303, attributes := #[] }, { accessFlags := 24, nameIndex := 19, descriptorIndex := 20, attributes := #[] }, { accessFlags := 24, nameIndex := 89, descriptorIndex := 86, attributes := #[] }, { accessFlags := 24, nameIndex := 85, descriptorIndex := 86, attributes := #[] }, { accessFlags := 18, nameIndex := 207, descriptorIndex := 194, attributes := #[] }, { accessFlags := 25, nameIndex := 316, descriptorIndex := 194, attributes := #[] }, { accessFlags := 25, nameIndex := 318, descriptorIndex := 194, attributes := #[] }, { accessFlags := 26, nameIndex := 320, descriptorIndex := 321, attributes := #[] }])
  fields := #[{ name := "MIN_VALUE", type := .int, accessFlags := 25, slot := 0, constantValue := 0 }, { name := "MAX_VALUE", type := .int, accessFlags := 25, slot := 1, constantValue := 0 }, { name := "TYPE", type := (.object "java/lang/Class"), accessFlags := 25, slot := 2, constantValue := 0 }, { name := "digits", type := (.array .char), accessFlags := 24, slot := 3, constantValue := 0 }, { name := "DigitTens", type := (.array .byte), accessFlags := 24, slot := 4, constantValue := 0 }, { name := "DigitOnes", type := (.array .byte), accessFlags := 24, slot := 5, constantValue := 0 }, { name := "value", type := .int, accessFlags := 18, slot := 0, constantValue := 0 }, { name := "SIZE", type := .int, accessFlags := 25, slot := 6, constantValue := 0 }, { name := "BYTES", type := .int, accessFlags := 25, slot := 7, constantValue := 0 }, { name := "serialVersionUID", type := .long, accessFlags := 26, slot := 8, constantValue := 0 }]
  methods := #[k17m0, k17m1]
  instanceTypes := #[.int]
  staticTypes := #[.int, .int, (.object "java/lang/Class"), (.array .char), (.array .byte), (.array .byte), .int, .int, .long]
  resolved := Array.replicate 453 none
  statics := some 2 }

def pool18 : Array CpInfo := pool [(9, u "<init>"), (6, .class_ 18), (1, u "java/lang/Object"), (0, u "()V"), (1, .class_ 23), (1, u "jdk/internal/util/ArraysSupport"), (0, u "LOG2_ARRAY_LONG_INDEX_SCALE"), (0, u "I"), (2, u "U"), (0, u "Ljdk/internal/misc/Unsafe;"), (8, u "BIG_ENDIAN"), (0, u "Z"), (8, u "LOG2_BYTE_BIT_SIZE"), (4, u "LOG2_ARRAY_INT_INDEX_SCALE"), (54, u "JLA"), (0, u "Ljdk/internal/access/JavaLangAccess;"), (11, u "LOG2_ARRAY_BOOLEAN_INDEX_SCALE"), (9, u "LOG2_ARRAY_BYTE_INDEX_SCALE"), (5, u "LOG2_ARRAY_CHAR_INDEX_SCALE"), (5, u "LOG2_ARRAY_SHORT_INDEX_SCALE"), (18, u "LOG2_ARRAY_FLOAT_INDEX_SCALE"), (24, u "LOG2_ARRAY_DOUBLE_INDEX_SCALE"), (6, .methodref 195 196), (0, .class_ 197), (0, .nameAndType 198 199), (0, u "java/lang/Math"), (0, u "max"), (0, u "(II)I"), (0, .integer 2147483639), (76, u "T_BOOLEAN"), (2, u "T_CHAR"), (1, u "T_FLOAT"), (1, u "T_DOUBLE"), (1, u "T_BYTE"), (1, u "T_SHORT"), (1, u "T_INT"), (1, u "T_LONG"), (1, u "SOFT_MAX_ARRAY_LENGTH"), (56, u "newLength"), (0, u "(III)I")] 25

def k18m0 : Method := { name := "<init>", desc := "()V", sig := { parameters := [], returnType := none }, accessFlags := 2, code := none }
def k18c1 : Code := { maxStack := 3, maxLocals := 4, code := jdk_48_method_27_code, exceptionTable := #[], attributes := #[] }
def k18m1 : Method := { name := "newLength", desc := "(III)I", sig := { parameters := [.int, .int, .int], returnType := some .int }, accessFlags := 9, code := some k18c1 }
/-- jdk/internal/util/ArraysSupport -/
def k18 : Class := { plain "jdk/internal/util/ArraysSupport" (some 0) with
  accessFlags := 33
  interfaces := #[]
  cf := some (fileOf pool18 21 #[] #[{ accessFlags := 2, nameIndex := 9, descriptorIndex := 19, attributes := #[] }, { accessFlags := 9, nameIndex := 351, descriptorIndex := 352, attributes := #[] }] 33 16 #[] #[{ accessFlags := 24, nameIndex := 28, descriptorIndex := 29, attributes := #[] }, { accessFlags := 26, nameIndex := 38, descriptorIndex := 39, attributes := #[] }, { accessFlags := 25, nameIndex := 121, descriptorIndex := 25, attributes := #[] }, { accessFlags := 25, nameIndex := 131, descriptorIndex := 25, attributes := #[] }, { accessFlags := 25, nameIndex := 137, descriptorIndex := 25, attributes := #[] }, { accessFlags := 25, nameIndex := 143, descriptorIndex := 25, attributes := #[] }, { accessFlags := 25, nameIndex := 53, descriptorIndex := 25, attributes := #[] }, { accessFlags := 25, nameIndex := 24, descriptorIndex := 25, attributes := #[] }, { accessFlags := 25, nameIndex := 162, descriptorIndex := 25, attributes := #[] }, { accessFlags := 25, nameIndex := 187, descriptorIndex := 25, attributes := #[] }, { accessFlags := 26, nameIndex := 48, descriptorIndex := 25, attributes := #[] }, { accessFlags := 25, nameIndex := 277, descriptorIndex := 25, attributes := #[] }, { accessFlags := 25, nameIndex := 280, descriptorIndex := 25, attributes := #[] }, { accessFlags := 25, nameIndex := 282, descriptorIndex := 25, attributes := #[] }, { accessFlags := 25, nameIndex := 284, descriptorIndex := 25, attributes := #[] }, { accessFlags := 25, nameIndex := 286, descriptorIndex := 25, attributes := #[] }, { accessFlags := 25, nameIndex := 288, descriptorIndex := 25, attributes := #[] }, { accessFlags := 25, nameIndex := 290, descriptorIndex := 25, attributes := #[] }, { accessFlags := 25, nameIndex := 292, descriptorIndex := 25, attributes := #[] }, { accessFlags := 26, nameIndex := 108, descriptorIndex := 109, attributes := #[] }, { accessFlags := 25, nameIndex := 294, descriptorIndex := 25, attributes := #[] }])
  fields := #[{ name := "U", type := (.object "jdk/internal/misc/Unsafe"), accessFlags := 24, slot := 0, constantValue := 0 }, { name := "BIG_ENDIAN", type := .boolean, accessFlags := 26, slot := 1, constantValue := 0 }, { name := "LOG2_ARRAY_BOOLEAN_INDEX_SCALE", type := .int, accessFlags := 25, slot := 2, constantValue := 0 }, { name := "LOG2_ARRAY_BYTE_INDEX_SCALE", type := .int, accessFlags := 25, slot := 3, constantValue := 0 }, { name := "LOG2_ARRAY_CHAR_INDEX_SCALE", type := .int, accessFlags := 25, slot := 4, constantValue := 0 }, { name := "LOG2_ARRAY_SHORT_INDEX_SCALE", type := .int, accessFlags := 25, slot := 5, constantValue := 0 }, { name := "LOG2_ARRAY_INT_INDEX_SCALE", type := .int, accessFlags := 25, slot := 6, constantValue := 0 }, { name := "LOG2_ARRAY_LONG_INDEX_SCALE", type := .int, accessFlags := 25, slot := 7, constantValue := 0 }, { name := "LOG2_ARRAY_FLOAT_INDEX_SCALE", type := .int, accessFlags := 25, slot := 8, constantValue := 0 }, { name := "LOG2_ARRAY_DOUBLE_INDEX_SCALE", type := .int, accessFlags := 25, slot := 9, constantValue := 0 }, { name := "LOG2_BYTE_BIT_SIZE", type := .int, accessFlags := 26, slot := 10, constantValue := 0 }, { name := "T_BOOLEAN", type := .int, accessFlags := 25, slot := 11, constantValue := 0 }, { name := "T_CHAR", type := .int, accessFlags := 25, slot := 12, constantValue := 0 }, { name := "T_FLOAT", type := .int, accessFlags := 25, slot := 13, constantValue := 0 }, { name := "T_DOUBLE", type := .int, accessFlags := 25, slot := 14, constantValue := 0 }, { name := "T_BYTE", type := .int, accessFlags := 25, slot := 15, constantValue := 0 }, { name := "T_SHORT", type := .int, accessFlags := 25, slot := 16, constantValue := 0 }, { name := "T_INT", type := .int, accessFlags := 25, slot := 17, constantValue := 0 }, { name := "T_LONG", type := .int, accessFlags := 25, slot := 18, constantValue := 0 }, { name := "JLA", type := (.object "jdk/internal/access/JavaLangAccess"), accessFlags := 26, slot := 19, constantValue := 0 }, { name := "SOFT_MAX_ARRAY_LENGTH", type := .int, accessFlags := 25, slot := 20, constantValue := 0 }]
  methods := #[k18m0, k18m1]
  instanceTypes := #[]
  staticTypes := #[(.object "jdk/internal/misc/Unsafe"), .boolean, .int, .int, .int, .int, .int, .int, .int, .int, .int, .int, .int, .int, .int, .int, .int, .int, .int, (.object "jdk/internal/access/JavaLangAccess"), .int]
  resolved := Array.replicate 378 none
  statics := none }

def pool19 : Array CpInfo := pool [(1, .class_ 2), (0, u "java/lang/Math"), (1, .class_ 6), (1, u "java/lang/Object"), (0, u "<init>"), (0, u "()V"), (89, .class_ 100), (1, u "java/lang/Math$RandomNumberGeneratorHolder"), (71, u "negativeZeroFloatBits"), (0, u "J"), (2, u "negativeZeroDoubleBits"), (21, u "max"), (2, u "min"), (43, u "$assertionsDisabled"), (0, u "Z"), (88, u "(II)I"), (2, u "twoToTheDoubleScaleDown"), (0, u "D"), (4, u "twoToTheDoubleScaleUp"), (9, u "E"), (3, u "PI"), (2, u "TAU"), (2, u "DEGREES_TO_RADIANS"), (0, u "RADIANS_TO_DEGREES")] 94

def k19m0 : Method := { name := "<init>", desc := "()V", sig := { parameters := [], returnType := none }, accessFlags := 2, code := none }
def k19c1 : Code := { maxStack := 2, maxLocals := 2, code := jdk_29_method_65_code, exceptionTable := #[], attributes := #[] }
def k19m1 : Method := { name := "max", desc := "(II)I", sig := { parameters := [.int, .int], returnType := some .int }, accessFlags := 9, code := some k19c1 }
def k19c2 : Code := { maxStack := 2, maxLocals := 2, code := jdk_29_method_69_code, exceptionTable := #[], attributes := #[] }
def k19m2 : Method := { name := "min", desc := "(II)I", sig := { parameters := [.int, .int], returnType := some .int }, accessFlags := 9, code := some k19c2 }
/-- java/lang/Math -/
def k19 : Class := { plain "java/lang/Math" (some 0) with
  accessFlags := 49
  interfaces := #[]
  cf := some (fileOf pool19 1 #[.nestMembers #[98]] #[{ accessFlags := 2, nameIndex := 7, descriptorIndex := 8, attributes := #[] }, { accessFlags := 9, nameIndex := 198, descriptorIndex := 335, attributes := #[] }, { accessFlags := 9, nameIndex := 201, descriptorIndex := 335, attributes := #[] }] 49 4 #[] #[{ accessFlags := 25, nameIndex := 354, descriptorIndex := 339, attributes := #[] }, { accessFlags := 25, nameIndex := 358, descriptorIndex := 339, attributes := #[] }, { accessFlags := 25, nameIndex := 361, descriptorIndex := 339, attributes := #[] }, { accessFlags := 26, nameIndex := 364, descriptorIndex := 339, attributes := #[] }, { accessFlags := 26, nameIndex := 365, descriptorIndex := 339, attributes := #[] }, { accessFlags := 26, nameIndex := 172, descriptorIndex := 173, attributes := #[] }, { accessFlags := 26, nameIndex := 176, descriptorIndex := 173, attributes := #[] }, { accessFlags := 8, nameIndex := 344, descriptorIndex := 339, attributes := #[] }, { accessFlags := 8, nameIndex := 338, descriptorIndex := 339, attributes := #[] }, { accessFlags := 4120, nameIndex := 245, descriptorIndex := 246, attributes := #[] }])
  fields := #[{ name := "E", type := .double, accessFlags := 25, slot := 0, constantValue := 0 }, { name := "PI", type := .double, accessFlags := 25, slot := 1, constantValue := 0 }, { name := "TAU", type := .double, accessFlags := 25, slot := 2, constantValue := 0 }, { name := "DEGREES_TO_RADIANS", type := .double, accessFlags := 26, slot := 3, constantValue := 0 }, { name := "RADIANS_TO_DEGREES", type := .double, accessFlags := 26, slot := 4, constantValue := 0 }, { name := "negativeZeroFloatBits", type := .long, accessFlags := 26, slot := 5, constantValue := 0 }, { name := "negativeZeroDoubleBits", type := .long, accessFlags := 26, slot := 6, constantValue := 0 }, { name := "twoToTheDoubleScaleUp", type := .double, accessFlags := 8, slot := 7, constantValue := 0 }, { name := "twoToTheDoubleScaleDown", type := .double, accessFlags := 8, slot := 8, constantValue := 0 }, { name := "$assertionsDisabled", type := .boolean, accessFlags := 4120, slot := 9, constantValue := 0 }]
  methods := #[k19m0, k19m1, k19m2]
  instanceTypes := #[]
  staticTypes := #[.double, .double, .double, .double, .double, .long, .long, .double, .double, .boolean]
  resolved := Array.replicate 460 none
  statics := none }

def pool20 : Array CpInfo := pool [(2, .class_ 4), (1, u "java/lang/Object"), (0, u "<init>"), (0, u "()V"), (7, .class_ 16), (1, u "java/util/Arrays"), (57, .class_ 76), (1, u "java/util/Arrays$NaturalOrder"), (36, .class_ 115), (1, u "java/util/Arrays$LegacyMergeSort"), (1, u "Z"), (21, u "copyOfRange"), (10, .methodref 151 152), (0, .class_ 153), (0, .nameAndType 154 155), (0, u "java/lang/System"), (0, u "arraycopy"), (0, u "(Ljava/lang/Object;ILjava/lang/Object;II)V"), (146, u "copyOf"), (1, .methodref 305 306), (0, .class_ 307), (0, .nameAndType 308 309), (0, u "java/lang/Math"), (0, u "min"), (0, u "(II)I"), (29, .methodref 14 340), (0, .nameAndType 341 342), (0, u "copyOfRangeByte"), (0, u "([BII)[B"), (0, .methodref 14 344), (0, .nameAndType 345 346), (0, u "checkLength"), (0, u "(II)V"), (28, .class_ 376), (0, u "java/util/Arrays$ArrayList"), (68, u "$assertionsDisabled"), (269, u "MIN_ARRAY_SORT_GRAN"), (0, u "I"), (2, u "INSERTIONSORT_THRESHOLD"), (149, u "([BI)[B"), (105, .class_ 976), (0, u "java/util/Arrays$ArrayItr")] 52

def k20m0 : Method := { name := "<init>", desc := "()V", sig := { parameters := [], returnType := none }, accessFlags := 2, code := none }
def k20c1 : Code := { maxStack := 6, maxLocals := 3, code := jdk_65_method_121_code, exceptionTable := #[], attributes := #[] }
def k20m1 : Method := { name := "copyOf", desc := "([BI)[B", sig := { parameters := [(.array .byte), .int], returnType := some (.array .byte) }, accessFlags := 9, code := some k20c1 }
def k20c2 : Code := { maxStack := 4, maxLocals := 2, code := jdk_65_method_131_code, exceptionTable := #[], attributes := #[] }
def k20m2 : Method := { name := "checkLength", desc := "(II)V", sig := { parameters := [.int, .int], returnType := none }, accessFlags := 10, code := some k20c2 }
def k20c3 : Code := { maxStack := 3, maxLocals := 3, code := jdk_65_method_132_code, exceptionTable := #[], attributes := #[] }
def k20m3 : Method := { name := "copyOfRange", desc := "([BII)[B", sig := { parameters := [(.array .byte), .int, .int], returnType := some (.array .byte) }, accessFlags := 9, code := some k20c3 }
def k20c4 : Code := { maxStack := 6, maxLocals := 5, code := jdk_65_method_133_code, exceptionTable := #[], attributes := #[] }
def k20m4 : Method := { name := "copyOfRangeByte", desc := "([BII)[B", sig := { parameters := [(.array .byte), .int, .int], returnType := some (.array .byte) }, accessFlags := 10, code := some k20c4 }
/-- java/util/Arrays -/
def k20 : Class := { plain "java/util/Arrays" (some 0) with
  accessFlags := 49
  interfaces := #[]
  cf := some (fileOf pool20 14 #[.nestMembers #[975, 375, 113, 74]] #[{ accessFlags := 2, nameIndex := 5, descriptorIndex := 6, attributes := #[] }, { accessFlags := 9, nameIndex := 302, descriptorIndex := 869, attributes := #[] }, { accessFlags := 10, nameIndex := 345, descriptorIndex := 346, attributes := #[] }, { accessFlags := 9, nameIndex := 139, descriptorIndex := 342, attributes := #[] }, { accessFlags := 10, nameIndex := 341, descriptorIndex := 342, attributes := #[] }] 49 2 #[] #[{ accessFlags := 26, nameIndex := 715, descriptorIndex := 716, attributes := #[] }, { accessFlags := 26, nameIndex := 719, descriptorIndex := 716, attributes := #[] }, { accessFlags := 4120, nameIndex := 445, descriptorIndex := 117, attributes := #[] }])
  fields := #[{ name := "MIN_ARRAY_SORT_GRAN", type := .int, accessFlags := 26, slot := 0, constantValue := 0 }, { name := "INSERTIONSORT_THRESHOLD", type := .int, accessFlags := 26, slot := 1, constantValue := 0 }, { name := "$assertionsDisabled", type := .boolean, accessFlags := 4120, slot := 2, constantValue := 0 }]
  methods := #[k20m0, k20m1, k20m2, k20m3, k20m4]
  instanceTypes := #[]
  staticTypes := #[.int, .int, .boolean]
  resolved := Array.replicate 1029 none
  statics := none }

def pool21 : Array CpInfo := pool [(1, .class_ 2), (0, u "java/lang/String"), (1, .class_ 6), (1, u "java/lang/Object"), (0, u "<init>"), (0, u "()V"), (0, .methodref 1 10), (0, .nameAndType 11 12), (0, u "checkIndex"), (0, u "(II)V"), (1, .class_ 16), (1, u "java/lang/StringLatin1"), (36, u "([BI)C"), (67, u "$assertionsDisabled"), (0, u "Z"), (98, .class_ 223), (1, u "java/lang/StringLatin1$LinesSpliterator"), (28, u "charAt"), (137, .class_ 391), (0, u "java/lang/StringLatin1$CharsSpliterator")] 3

def k21m0 : Method := { name := "<init>", desc := "()V", sig := { parameters := [], returnType := none }, accessFlags := 0, code := none }
def k21c1 : Code := { maxStack := 2, maxLocals := 2, code := jdk_43_method_2_code, exceptionTable := #[], attributes := #[] }
def k21m1 : Method := { name := "charAt", desc := "([BI)C", sig := { parameters := [(.array .byte), .int], returnType := some .char }, accessFlags := 9, code := some k21c1 }
/-- java/lang/StringLatin1 -/
def k21 : Class := { plain "java/lang/StringLatin1" (some 0) with
  accessFlags := 48
  interfaces := #[]
  cf := some (fileOf pool21 14 #[.nestMembers #[390, 221]] #[{ accessFlags := 0, nameIndex := 7, descriptorIndex := 8, attributes := #[] }, { accessFlags := 9, nameIndex := 252, descriptorIndex := 53, attributes := #[] }] 48 4 #[] #[{ accessFlags := 4120, nameIndex := 121, descriptorIndex := 122, attributes := #[] }])
  fields := #[{ name := "$assertionsDisabled", type := .boolean, accessFlags := 4120, slot := 0, constantValue := 0 }]
  methods := #[k21m0, k21m1]
  instanceTypes := #[]
  staticTypes := #[.boolean]
  resolved := Array.replicate 395 none
  statics := none }

def pool22 : Array CpInfo := pool [(2, .class_ 4), (1, u "java/lang/Object"), (0, u "<init>"), (0, u "()V"), (17, .class_ 26), (1, u "jdk/internal/util/Preconditions"), (6, u "checkIndex"), (21, .class_ 56), (0, u "jdk/internal/util/Preconditions$4"), (57, .class_ 115), (0, u "jdk/internal/util/Preconditions$1"), (7, u "SIOOBE_FORMATTER"), (0, u "Ljava/util/function/BiFunction;"), (0, .class_ 126), (0, u "jdk/internal/util/Preconditions$2"), (3, u "AIOOBE_FORMATTER"), (0, .class_ 132), (0, u "jdk/internal/util/Preconditions$3"), (3, u "IOOBE_FORMATTER"), (41, u "(IILjava/util/function/BiFunction;)I")] 15

def k22m0 : Method := { name := "<init>", desc := "()V", sig := { parameters := [], returnType := none }, accessFlags := 1, code := none }
def k22c1 : Code := { maxStack := 3, maxLocals := 3, code := jdk_41_method_11_code, exceptionTable := #[], attributes := #[] }
def k22m1 : Method := { name := "checkIndex", desc := "(IILjava/util/function/BiFunction;)I", sig := { parameters := [.int, .int, (.object "java/util/function/BiFunction")], returnType := some .int }, accessFlags := 9, code := some k22c1 }
/-- jdk/internal/util/Preconditions -/
def k22 : Class := { plain "jdk/internal/util/Preconditions" (some 0) with
  accessFlags := 33
  interfaces := #[]
  cf := some (fileOf pool22 24 #[.nestMembers #[55, 131, 125, 114]] #[{ accessFlags := 1, nameIndex := 5, descriptorIndex := 6, attributes := #[] }, { accessFlags := 9, nameIndex := 33, descriptorIndex := 178, attributes := #[] }] 33 2 #[] #[{ accessFlags := 25, nameIndex := 123, descriptorIndex := 124, attributes := #[] }, { accessFlags := 25, nameIndex := 130, descriptorIndex := 124, attributes := #[] }, { accessFlags := 25, nameIndex := 136, descriptorIndex := 124, attributes := #[] }])
  fields := #[{ name := "SIOOBE_FORMATTER", type := (.object "java/util/function/BiFunction"), accessFlags := 25, slot := 0, constantValue := 0 }, { name := "AIOOBE_FORMATTER", type := (.object "java/util/function/BiFunction"), accessFlags := 25, slot := 1, constantValue := 0 }, { name := "IOOBE_FORMATTER", type := (.object "java/util/function/BiFunction"), accessFlags := 25, slot := 2, constantValue := 0 }]
  methods := #[k22m0, k22m1]
  instanceTypes := #[]
  staticTypes := #[(.object "java/util/function/BiFunction"), (.object "java/util/function/BiFunction"), (.object "java/util/function/BiFunction")]
  resolved := Array.replicate 194 none
  statics := some 3 }

def pool23 : Array CpInfo := pool [(2, .class_ 4), (1, u "java/lang/Object"), (0, u "<init>"), (0, u "()V"), (12, .class_ 20), (0, u "java/util/Collections"), (63, u "r"), (0, u "Ljava/util/Random;"), (80, .class_ 167), (0, u "java/util/Collections$UnmodifiableCollection"), (6, .class_ 175), (0, u "java/util/Collections$UnmodifiableSequencedCollection"), (6, .class_ 183), (0, u "java/util/Collections$UnmodifiableSet"), (6, .class_ 191), (0, u "java/util/Collections$UnmodifiableSequencedSet"), (6, .class_ 199), (0, u "java/util/Collections$UnmodifiableSortedSet"), (6, .class_ 207), (0, u "java/util/Collections$UnmodifiableNavigableSet"), (4, .class_ 213), (0, u "java/util/Collections$UnmodifiableList"), (1, .class_ 216), (0, u "java/util/Collections$UnmodifiableRandomAccessList"), (6, .class_ 224), (0, u "java/util/Collections$UnmodifiableMap"), (6, .class_ 232), (0, u "java/util/Collections$UnmodifiableSequencedMap"), (4, .class_ 238), (0, u "java/util/Collections$UnmodifiableSortedMap"), (6, .class_ 246), (0, u "java/util/Collections$UnmodifiableNavigableMap"), (3, .class_ 251), (0, u "java/util/Collections$SynchronizedCollection"), (4, .class_ 257), (0, u "java/util/Collections$SynchronizedSet"), (4, .class_ 263), (0, u "java/util/Collections$SynchronizedSortedSet"), (1, .class_ 266), (0, u "java/util/Collections$SynchronizedNavigableSet"), (1, .class_ 269), (0, u "java/util/Collections$SynchronizedRandomAccessList"), (1, .class_ 272), (0, u "java/util/Collections$SynchronizedList"), (5, .class_ 279), (0, u "java/util/Collections$SynchronizedMap"), (1, .class_ 282), (0, u "java/util/Collections$SynchronizedSortedMap"), (1, .class_ 285), (0, u "java/util/Collections$SynchronizedNavigableMap"), (1, .class_ 288), (0, u "java/util/Collections$CheckedCollection"), (11, .class_ 301), (0, u "java/util/Collections$CheckedQueue"), (3, .class_ 306), (0, u "java/util/Collections$CheckedSet"), (3, .class_ 311), (0, u "java/util/Collections$CheckedSortedSet"), (3, .class_ 316), (0, u "java/util/Collections$CheckedNavigableSet"), (3, .class_ 321), (0, u "java/util/Collections$CheckedRandomAccessList"), (3, .class_ 326), (0, u "java/util/Collections$CheckedList"), (1, .class_ 329), (0, u "java/util/Collections$CheckedMap"), (3, .class_ 334), (0, u "java/util/Collections$CheckedSortedMap"), (3, .class_ 339), (0, u "java/util/Collections$CheckedNavigableMap"), (4, .class_ 346), (1, u "java/util/Collections$EmptyIterator"), (3, .class_ 352), (1, u "java/util/Collections$EmptyListIterator"), (2, .class_ 357), (1, u "java/util/Collections$EmptyEnumeration"), (4, u "EMPTY_SET"), (0, u "Ljava/util/Set;"), (6, u "EMPTY_LIST"), (0, u "Ljava/util/List;"), (2, u "EMPTY_MAP"), (0, u "Ljava/util/Map;"), (4, .class_ 381), (0, u "java/util/Collections$SingletonSet"), (2, .class_ 385), (0, u "java/util/Collections$1"), (1, .class_ 388), (0, u "java/util/Collections$2"), (1, .class_ 391), (0, u "java/util/Collections$SingletonList"), (1, .class_ 394), (0, u "java/util/Collections$SingletonMap"), (22, .class_ 418), (0, u "java/util/Collections$CopiesList"), (4, .class_ 425), (1, u "java/util/Collections$ReverseComparator"), (8, .class_ 435), (0, u "java/util/Collections$ReverseComparator2"), (6, .class_ 443), (0, u "java/util/Collections$3"), (25, .class_ 470), (0, u "java/util/Collections$SetFromMap"), (2, .class_ 474), (0, u "java/util/Collections$SequencedSetFromMap"), (3, .class_ 479), (0, u "java/util/Collections$AsLIFOQueue"), (11, .class_ 492), (0, u "java/util/Collections$EmptySet"), (1, .class_ 495), (0, u "java/util/Collections$EmptyList"), (1, .class_ 498), (0, u "java/util/Collections$EmptyMap"), (1, u "BINARYSEARCH_THRESHOLD"), (0, u "I"), (2, u "REVERSE_THRESHOLD"), (1, u "SHUFFLE_THRESHOLD"), (1, u "FILL_THRESHOLD"), (1, u "ROTATE_THRESHOLD"), (1, u "COPY_THRESHOLD"), (1, u "REPLACEALL_THRESHOLD"), (1, u "INDEXOFSUBLIST_THRESHOLD"), (333, .class_ 851), (0, u "java/util/Collections$CheckedMap$CheckedEntrySet"), (0, .class_ 853), (0, u "java/util/Collections$CheckedMap$CheckedEntrySet$CheckedEntry"), (0, .class_ 855), (0, u "java/util/Collections$CheckedMap$CheckedEntrySet$1"), (0, .class_ 857), (0, u "java/util/Collections$CheckedList$1"), (0, .class_ 859), (0, u "java/util/Collections$CheckedCollection$1"), (0, .class_ 861), (0, u "java/util/Collections$UnmodifiableNavigableMap$EmptyNavigableMap"), (0, .class_ 863), (0, u "java/util/Collections$UnmodifiableMap$UnmodifiableEntrySet"), (0, .class_ 865), (0, u "java/util/Collections$UnmodifiableMap$UnmodifiableEntrySet$UnmodifiableEntry"), (0, .class_ 867), (0, u "java/util/Collections$UnmodifiableMap$UnmodifiableEntrySet$UnmodifiableEntrySetSpliterator"), (0, .class_ 869), (0, u "java/util/Collections$UnmodifiableMap$UnmodifiableEntrySet$1"), (0, .class_ 871), (0, u "java/util/Collections$UnmodifiableList$1"), (0, .class_ 873), (0, u "java/util/Collections$UnmodifiableNavigableSet$EmptyNavigableSet"), (0, .class_ 875), (0, u "java/util/Collections$UnmodifiableCollection$1")] 57

def k23m0 : Method := { name := "<init>", desc := "()V", sig := { parameters := [], returnType := none }, accessFlags := 2, code := none }
/-- java/util/Collections -/
def k23 : Class := { plain "java/util/Collections" (some 0) with
  accessFlags := 33
  interfaces := #[]
  cf := some (fileOf pool23 19 #[.nestMembers #[478, 473, 469, 434, 423, 417, 393, 390, 380, 497, 494, 491, 355, 350, 344, 338, 333, 328, 850, 852, 854, 320, 325, 856, 315, 310, 305, 300, 287, 858, 284, 281, 278, 268, 271, 265, 262, 256, 250, 245, 860, 237, 231, 223, 862, 864, 866, 868, 215, 212, 870, 206, 872, 198, 190, 182, 174, 166, 874, 442, 387, 384]] #[{ accessFlags := 2, nameIndex := 5, descriptorIndex := 6, attributes := #[] }] 33 2 #[] #[{ accessFlags := 26, nameIndex := 500, descriptorIndex := 501, attributes := #[] }, { accessFlags := 26, nameIndex := 504, descriptorIndex := 501, attributes := #[] }, { accessFlags := 26, nameIndex := 506, descriptorIndex := 501, attributes := #[] }, { accessFlags := 26, nameIndex := 508, descriptorIndex := 501, attributes := #[] }, { accessFlags := 26, nameIndex := 510, descriptorIndex := 501, attributes := #[] }, { accessFlags := 26, nameIndex := 512, descriptorIndex := 501, attributes := #[] }, { accessFlags := 26, nameIndex := 514, descriptorIndex := 501, attributes := #[] }, { accessFlags := 26, nameIndex := 516, descriptorIndex := 501, attributes := #[] }, { accessFlags := 10, nameIndex := 84, descriptorIndex := 85, attributes := #[] }, { accessFlags := 25, nameIndex := 362, descriptorIndex := 363, attributes := #[] }, { accessFlags := 25, nameIndex := 370, descriptorIndex := 371, attributes := #[] }, { accessFlags := 25, nameIndex := 374, descriptorIndex := 375, attributes := #[] }])
  fields := #[{ name := "BINARYSEARCH_THRESHOLD", type := .int, accessFlags := 26, slot := 0, constantValue := 0 }, { name := "REVERSE_THRESHOLD", type := .int, accessFlags := 26, slot := 1, constantValue := 0 }, { name := "SHUFFLE_THRESHOLD", type := .int, accessFlags := 26, slot := 2, constantValue := 0 }, { name := "FILL_THRESHOLD", type := .int, accessFlags := 26, slot := 3, constantValue := 0 }, { name := "ROTATE_THRESHOLD", type := .int, accessFlags := 26, slot := 4, constantValue := 0 }, { name := "COPY_THRESHOLD", type := .int, accessFlags := 26, slot := 5, constantValue := 0 }, { name := "REPLACEALL_THRESHOLD", type := .int, accessFlags := 26, slot := 6, constantValue := 0 }, { name := "INDEXOFSUBLIST_THRESHOLD", type := .int, accessFlags := 26, slot := 7, constantValue := 0 }, { name := "r", type := (.object "java/util/Random"), accessFlags := 10, slot := 8, constantValue := 0 }, { name := "EMPTY_SET", type := (.object "java/util/Set"), accessFlags := 25, slot := 9, constantValue := 0 }, { name := "EMPTY_LIST", type := (.object "java/util/List"), accessFlags := 25, slot := 10, constantValue := 0 }, { name := "EMPTY_MAP", type := (.object "java/util/Map"), accessFlags := 25, slot := 11, constantValue := 0 }]
  methods := #[k23m0]
  instanceTypes := #[]
  staticTypes := #[.int, .int, .int, .int, .int, .int, .int, .int, (.object "java/util/Random"), (.object "java/util/Set"), (.object "java/util/List"), (.object "java/util/Map")]
  resolved := Array.replicate 933 none
  statics := some 4 }

def pool24 : Array CpInfo := pool [(8, .class_ 10), (1, u "java/lang/Iterable"), (24, .class_ 36), (0, u "java/lang/Object")] 25

/-- java/lang/Iterable -/
def k24 : Class := { plain "java/lang/Iterable" (some 0) with
  accessFlags := 1537
  interfaces := #[]
  cf := some (fileOf pool24 8 #[] #[] 1537 35 #[] #[])
  fields := #[]
  methods := #[]
  instanceTypes := #[]
  staticTypes := #[]
  resolved := Array.replicate 62 none
  statics := none }

def pool25 : Array CpInfo := pool [(10, .class_ 12), (1, u "java/util/Collection"), (47, .class_ 61), (0, u "java/lang/Object"), (0, .class_ 63), (0, u "java/lang/Iterable")] 51

/-- java/util/Collection -/
def k25 : Class := { plain "java/util/Collection" (some 0) with
  accessFlags := 1537
  interfaces := #[24]
  cf := some (fileOf pool25 10 #[] #[] 1537 60 #[62] #[])
  fields := #[]
  methods := #[]
  instanceTypes := #[]
  staticTypes := #[]
  resolved := Array.replicate 115 none
  statics := none }

def pool26 : Array CpInfo := pool [(2, .class_ 4), (1, u "java/lang/Object"), (0, u "<init>"), (0, u "()V"), (1, .class_ 10), (1, u "java/util/AbstractCollection"), (66, .class_ 78), (0, u "java/util/Collection")] 81

def k26m0 : Method := { name := "<init>", desc := "()V", sig := { parameters := [], returnType := none }, accessFlags := 4, code := none }
/-- java/util/AbstractCollection -/
def k26 : Class := { plain "java/util/AbstractCollection" (some 0) with
  accessFlags := 1057
  interfaces := #[25]
  cf := some (fileOf pool26 8 #[] #[{ accessFlags := 4, nameIndex := 5, descriptorIndex := 6, attributes := #[] }] 1057 2 #[77] #[])
  fields := #[]
  methods := #[k26m0]
  instanceTypes := #[]
  staticTypes := #[]
  resolved := Array.replicate 160 none
  statics := none }

def pool27 : Array CpInfo := pool [(8, .class_ 10), (1, u "java/util/SequencedCollection"), (15, .class_ 27), (0, u "java/lang/Object"), (0, .class_ 29), (0, u "java/util/Collection")] 27

/-- java/util/SequencedCollection -/
def k27 : Class := { plain "java/util/SequencedCollection" (some 0) with
  accessFlags := 1537
  interfaces := #[25]
  cf := some (fileOf pool27 8 #[] #[] 1537 26 #[28] #[])
  fields := #[]
  methods := #[]
  instanceTypes := #[]
  staticTypes := #[]
  resolved := Array.replicate 57 none
  statics := none }

def pool28 : Array CpInfo := pool [(8, .class_ 10), (1, u "java/util/List"), (92, .class_ 104), (0, u "java/lang/Object"), (15, .class_ 121), (0, u "java/util/SequencedCollection")] 129

/-- java/util/List -/
def k28 : Class := { plain "java/util/List" (some 0) with
  accessFlags := 1537
  interfaces := #[27]
  cf := some (fileOf pool28 8 #[] #[] 1537 103 #[120] #[])
  fields := #[]
  methods := #[]
  instanceTypes := #[]
  staticTypes := #[]
  resolved := Array.replicate 251 none
  statics := none }

def pool29 : Array CpInfo := pool [(2, .class_ 4), (1, u "java/util/AbstractCollection"), (0, u "<init>"), (0, u "()V"), (1, .class_ 10), (1, u "java/util/AbstractList"), (0, u "modCount"), (0, u "I"), (64, .class_ 78), (0, u "java/util/AbstractList$Itr"), (3, .class_ 83), (0, u "java/util/AbstractList$ListItr"), (9, .class_ 94), (0, u "java/util/AbstractList$RandomAccessSubList"), (3, .class_ 99), (0, u "java/util/AbstractList$SubList"), (33, .class_ 134), (0, u "java/util/List"), (73, .class_ 209), (0, u "java/util/AbstractList$SubList$1"), (0, .class_ 211), (0, u "java/util/AbstractList$RandomAccessSpliterator")] 6

def k29m0 : Method := { name := "<init>", desc := "()V", sig := { parameters := [], returnType := none }, accessFlags := 4, code := none }
/-- java/util/AbstractList -/
def k29 : Class := { plain "java/util/AbstractList" (some 26) with
  accessFlags := 1057
  interfaces := #[28]
  cf := some (fileOf pool29 8 #[.nestMembers #[93, 98, 208, 210, 82, 77]] #[{ accessFlags := 4, nameIndex := 5, descriptorIndex := 6, attributes := #[] }] 1057 2 #[133] #[{ accessFlags := 132, nameIndex := 11, descriptorIndex := 12, attributes := #[] }])
  fields := #[{ name := "modCount", type := .int, accessFlags := 132, slot := 0, constantValue := 0 }]
  methods := #[k29m0]
  instanceTypes := #[.int]
  staticTypes := #[]
  resolved := Array.replicate 218 none
  statics := none }

def pool30 : Array CpInfo := pool [(1, .class_ 2), (0, u "java/util/RandomAccess"), (0, .class_ 4), (0, u "java/lang/Object")] 2

/-- java/util/RandomAccess -/
def k30 : Class := { plain "java/util/RandomAccess" (some 0) with
  accessFlags := 1537
  interfaces := #[]
  cf := some (fileOf pool30 1 #[] #[] 1537 3 #[] #[])
  fields := #[]
  methods := #[]
  instanceTypes := #[]
  staticTypes := #[]
  resolved := Array.replicate 7 none
  statics := none }

def pool31 : Array CpInfo := pool [(2, .class_ 4), (1, u "java/util/AbstractList"), (0, u "<init>"), (0, u "()V"), (1, .class_ 10), (1, u "java/util/Collections"), (54, .class_ 66), (0, u "java/util/Collections$EmptyList"), (0, .class_ 68), (0, u "java/util/RandomAccess"), (0, .class_ 70), (0, u "java/io/Serializable"), (0, u "serialVersionUID"), (0, u "J")] 77

def k31m0 : Method := { name := "<init>", desc := "()V", sig := { parameters := [], returnType := none }, accessFlags := 2, code := none }
/-- java/util/Collections$EmptyList -/
def k31 : Class := { plain "java/util/Collections$EmptyList" (some 29) with
  accessFlags := 32
  interfaces := #[30, 3]
  cf := some (fileOf pool31 65 #[.nestHost 8] #[{ accessFlags := 2, nameIndex := 5, descriptorIndex := 6, attributes := #[] }] 32 2 #[67, 69] #[{ accessFlags := 26, nameIndex := 71, descriptorIndex := 72, attributes := #[] }])
  fields := #[{ name := "serialVersionUID", type := .long, accessFlags := 26, slot := 0, constantValue := 0 }]
  methods := #[k31m0]
  instanceTypes := #[.int]
  staticTypes := #[.long]
  resolved := Array.replicate 150 none
  statics := none }

def pool32 : Array CpInfo := pool [(2, .class_ 4), (1, u "java/lang/StackTraceElement"), (0, u "<init>"), (2, .class_ 10), (1, u "java/lang/Object"), (0, u "()V"), (2, u "format"), (0, u "B"), (2, u "classLoaderName"), (0, u "Ljava/lang/String;"), (2, u "moduleName"), (2, u "moduleVersion"), (12, u "declaringClass"), (4, u "methodName"), (2, u "fileName"), (2, u "lineNumber"), (0, u "I"), (65, u "declaringClassObject"), (0, u "Ljava/lang/Class;"), (33, .class_ 153), (1, u "java/lang/StackTraceElement$HashedModules"), (17, .class_ 172), (0, u "java/io/Serializable"), (0, u "NATIVE_METHOD"), (1, u "UNKNOWN_SOURCE"), (2, u "BUILTIN_CLASS_LOADER"), (1, u "JDK_NON_UPGRADEABLE_MODULE"), (1, u "serialVersionUID"), (0, u "J")] 51

def k32m0 : Method := { name := "<init>", desc := "()V", sig := { parameters := [], returnType := none }, accessFlags := 2, code := none }
/-- java/lang/StackTraceElement -/
def k32 : Class := { plain "java/lang/StackTraceElement" (some 0) with
  accessFlags := 49
  interfaces := #[3]
  cf := some (fileOf pool32 2 #[.nestMembers #[151]] #[{ accessFlags := 2, nameIndex := 5, descriptorIndex := 11, attributes := #[] }] 49 8 #[171] #[{ accessFlags := 26, nameIndex := 173, descriptorIndex := 19, attributes := #[] }, { accessFlags := 26, nameIndex := 175, descriptorIndex := 19, attributes := #[] }, { accessFlags := 130, nameIndex := 116, descriptorIndex := 117, attributes := #[] }, { accessFlags := 2, nameIndex := 18, descriptorIndex := 19, attributes := #[] }, { accessFlags := 2, nameIndex := 22, descriptorIndex := 19, attributes := #[] }, { accessFlags := 2, nameIndex := 25, descriptorIndex := 19, attributes := #[] }, { accessFlags := 2, nameIndex := 38, descriptorIndex := 19, attributes := #[] }, { accessFlags := 2, nameIndex := 43, descriptorIndex := 19, attributes := #[] }, { accessFlags := 2, nameIndex := 46, descriptorIndex := 19, attributes := #[] }, { accessFlags := 2, nameIndex := 49, descriptorIndex := 50, attributes := #[] }, { accessFlags := 2, nameIndex := 14, descriptorIndex := 15, attributes := #[] }, { accessFlags := 26, nameIndex := 178, descriptorIndex := 15, attributes := #[] }, { accessFlags := 26, nameIndex := 180, descriptorIndex := 15, attributes := #[] }, { accessFlags := 26, nameIndex := 182, descriptorIndex := 183, attributes := #[] }])
  fields := #[{ name := "NATIVE_METHOD", type := (.object "java/lang/String"), accessFlags := 26, slot := 0, constantValue := 0 }, { name := "UNKNOWN_SOURCE", type := (.object "java/lang/String"), accessFlags := 26, slot := 1, constantValue := 0 }, { name := "declaringClassObject", type := (.object "java/lang/Class"), accessFlags := 130, slot := 0, constantValue := 0 }, { name := "classLoaderName", type := (.object "java/lang/String"), accessFlags := 2, slot := 1, constantValue := 0 }, { name := "moduleName", type := (.object "java/lang/String"), accessFlags := 2, slot := 2, constantValue := 0 }, { name := "moduleVersion", type := (.object "java/lang/String"), accessFlags := 2, slot := 3, constantValue := 0 }, { name := "declaringClass", type := (.object "java/lang/String"), accessFlags := 2, slot := 4, constantValue := 0 }, { name := "methodName", type := (.object "java/lang/String"), accessFlags := 2, slot := 5, constantValue := 0 }, { name := "fileName", type := (.object "java/lang/String"), accessFlags := 2, slot := 6, constantValue := 0 }, { name := "lineNumber", type := .int, accessFlags := 2, slot := 7, constantValue := 0 }, { name := "format", type := .byte, accessFlags := 2, slot := 8, constantValue := 0 }, { name := "BUILTIN_CLASS_LOADER", type := .byte, accessFlags := 26, slot := 2, constantValue := 0 }, { name := "JDK_NON_UPGRADEABLE_MODULE", type := .byte, accessFlags := 26, slot := 3, constantValue := 0 }, { name := "serialVersionUID", type := .long, accessFlags := 26, slot := 4, constantValue := 0 }]
  methods := #[k32m0]
  instanceTypes := #[(.object "java/lang/Class"), (.object "java/lang/String"), (.object "java/lang/String"), (.object "java/lang/String"), (.object "java/lang/String"), (.object "java/lang/String"), (.object "java/lang/String"), .int, .byte]
  staticTypes := #[(.object "java/lang/String"), (.object "java/lang/String"), .byte, .byte, .long]
  resolved := Array.replicate 235 none
  statics := none }

def pool33 : Array CpInfo := pool [(1, u "java/lang/Cloneable"), (0, .class_ 1), (0, u "java/lang/Object"), (0, .class_ 3)] 3

/-- java/lang/Cloneable -/
def k33 : Class := { plain "java/lang/Cloneable" (some 0) with
  accessFlags := 1537
  interfaces := #[]
  cf := some (fileOf pool33 2 #[] #[] 1537 4 #[] #[])
  fields := #[]
  methods := #[]
  instanceTypes := #[]
  staticTypes := #[]
  resolved := Array.replicate 8 none
  statics := none }

/-- the primitive byte -/
def k34 : Class := { plain "byte" none with kind := .primitive 'B', accessFlags := 0x411 }
/-- [B -/
def k35 : Class := { plain "[B" (some 0) with kind := .array 34 .byte, interfaces := #[33, 3], accessFlags := 1041 }

/-- the primitive int -/
def k36 : Class := { plain "int" none with kind := .primitive 'I', accessFlags := 0x411 }
/-- [I -/
def k37 : Class := { plain "[I" (some 0) with kind := .array 36 .int, interfaces := #[33, 3], accessFlags := 1041 }

/-- [Ljava/lang/Object; -/
def k38 : Class := { plain "[Ljava/lang/Object;" (some 0) with kind := .array 0 (.object "java/lang/Object"), interfaces := #[33, 3], accessFlags := 1041 }

/-- [Ljava/lang/StackTraceElement; -/
def k39 : Class := { plain "[Ljava/lang/StackTraceElement;" (some 0) with kind := .array 32 (.object "java/lang/StackTraceElement"), interfaces := #[33, 3], accessFlags := 1041 }

/-- [Ljava/lang/Throwable; -/
def k40 : Class := { plain "[Ljava/lang/Throwable;" (some 0) with kind := .array 4 (.object "java/lang/Throwable"), interfaces := #[33, 3], accessFlags := 1041 }

def heap : Heap := #[{ cls := 4, slots := #[.long 0, .ref 7, .ref 8, .null, .null, .null, .null, .ref 9, .int 1], vm := .statics 4 },
  { cls := 14, slots := #[.long 0, .int 1, .null, .int 0, .null, .int 0, .int 0], vm := .statics 14 },
  { cls := 17, slots := #[.int 0, .int 0, .null, .null, .ref 6, .ref 5, .int 0, .int 0, .long 0], vm := .statics 17 },
  { cls := 22, slots := #[.null, .null, .null], vm := .statics 22 },
  { cls := 23, slots := #[.int 0, .int 0, .int 0, .int 0, .int 0, .int 0, .int 0, .int 0, .null, .null, .ref 8, .null], vm := .statics 23 },
  { cls := 35, slots := #[.int 48, .int 49, .int 50, .int 51, .int 52, .int 53, .int 54, .int 55, .int 56, .int 57, .int 48, .int 49, .int 50, .int 51, .int 52, .int 53, .int 54, .int 55, .int 56, .int 57, .int 48, .int 49, .int 50, .int 51, .int 52, .int 53, .int 54, .int 55, .int 56, .int 57, .int 48, .int 49, .int 50, .int 51, .int 52, .int 53, .int 54, .int 55, .int 56, .int 57, .int 48, .int 49, .int 50, .int 51, .int 52, .int 53, .int 54, .int 55, .int 56, .int 57, .int 48, .int 49, .int 50, .int 51, .int 52, .int 53, .int 54, .int 55, .int 56, .int 57, .int 48, .int 49, .int 50, .int 51, .int 52, .int 53, .int 54, .int 55, .int 56, .int 57, .int 48, .int 49, .int 50, .int 51, .int 52, .int 53, .int 54, .int 55, .int 56, .int 57, .int 48, .int 49, .int 50, .int 51, .int 52, .int 53, .int 54, .int 55, .int 56, .int 57, .int 48, .int 49, .int 50, .int 51, .int 52, .int 53, .int 54, .int 55, .int 56, .int 57], vm := .none },
  { cls := 35, slots := #[.int 48, .int 48, .int 48, .int 48, .int 48, .int 48, .int 48, .int 48, .int 48, .int 48, .int 49, .int 49, .int 49, .int 49, .int 49, .int 49, .int 49, .int 49, .int 49, .int 49, .int 50, .int 50, .int 50, .int 50, .int 50, .int 50, .int 50, .int 50, .int 50, .int 50, .int 51, .int 51, .int 51, .int 51, .int 51, .int 51, .int 51, .int 51, .int 51, .int 51, .int 52, .int 52, .int 52, .int 52, .int 52, .int 52, .int 52, .int 52, .int 52, .int 52, .int 53, .int 53, .int 53, .int 53, .int 53, .int 53, .int 53, .int 53, .int 53, .int 53, .int 54, .int 54, .int 54, .int 54, .int 54, .int 54, .int 54, .int 54, .int 54, .int 54, .int 55, .int 55, .int 55, .int 55, .int 55, .int 55, .int 55, .int 55, .int 55, .int 55, .int 56, .int 56, .int 56, .int 56, .int 56, .int 56, .int 56, .int 56, .int 56, .int 56, .int 57, .int 57, .int 57, .int 57, .int 57, .int 57, .int 57, .int 57, .int 57, .int 57], vm := .none },
  { cls := 39, slots := #[], vm := .none },
  { cls := 31, slots := #[.int 0], vm := .none },
  { cls := 40, slots := #[], vm := .none }]
def classes : Array Class := #[k0, k1, k2, k3, k4, k5, k6, k7, k8, k9, k10, k11, k12, k13, k14, k15, k16, k17, k18, k19, k20, k21, k22, k23, k24, k25, k26, k27, k28, k29, k30, k31, k32, k33, k34, k35, k36, k37, k38, k39, k40]
def interned : List (Array UInt16 × Addr) := []
def slotsUsed : Nat := 241
def theMethod : MethodId := ⟨1, 1⟩
def args0 : Array Value := #[.int 5]
def aboutOver (below : List Frame) : State where
  vm := { classes := classes, interned := interned.toArray }
  heap := heap
  slotsUsed := slotsUsed
  threads := #[{ frames := .invoking theMethod args0 :: below }]
def below0 : List Frame := [.native { method := ⟨0, 0⟩, args := #[] }]
def about1 : State := aboutOver below0
def p0 : Program := .bare "" "" ""
def e0 : Env := launch0.env 0 0 0
theorem w_frames : about1.frames = Frame.invoking theMethod args0 :: below0 := rfl
set_option maxRecDepth 65536 in
theorem w_args : argsFit about1.vm theMethod args0 = true := by decide +kernel
set_option maxRecDepth 65536 in
theorem w_heap : heapFits about1 = true := by decide +kernel
set_option maxRecDepth 65536 in
theorem w_runnable : about1.curStatus? = some .runnable := by decide +kernel
set_option maxRecDepth 65536 in
theorem w_alone : about1.alone = true := by decide +kernel
set_option maxRecDepth 65536 in
theorem w_named : about1.methodNamed? x = some theMethod := by decide +kernel
set_option maxRecDepth 65536 in
theorem w_hears : about1.hears theMethod below0 = true := by decide +kernel
set_option maxRecDepth 65536 in
theorem w_ripe : about1.ripe theMethod args0 below0 = true := by decide +kernel
theorem w_running : about1.status = .running := rfl
set_option maxRecDepth 65536 in
theorem w_room : about1.hasRoom e0.platform room_1 = true :=
  launch0.hasRoom_least _ room_1 (by decide +kernel) (by decide +kernel) (by decide +kernel) (by decide +kernel) (by decide +kernel) (by decide +kernel)
theorem allAtoms_all (ts : List Jvm.Cond) (a : Array Jvm.Value) (st : Jvm.State) : (allAtoms ts).before a st = ts.all (fun c => c.before a st) := by
  induction ts with
  | nil => rfl
  | cons c t ih =>
    show (Jvm.Cond.and c (allAtoms t)).before a st = _
    rw [Jvm.Cond.before_and, ih, List.all_cons]
def words1 : List Jvm.Cond := Jvm.Cond.code x code maxLocals ret :: tables_1
/-- a 'code' word, met by the world's own term for the bytes: nothing is compared byte by byte -/
theorem code_word {y : MethodName} {bytes : ByteArray} {mx : Nat} {rt : Option FieldType} {a : Array Value} {s : State} {m : MethodId} {meth : Method} {c : Code} (h1 : s.methodNamed? y = some m) (h2 : s.vm.method? m = some meth) (h3 : meth.code = some c) (h4 : c.code = bytes)
    (h5 : (c.maxLocals == mx && c.exceptionTable.isEmpty && decide (c.maxStack ≤ mostOperands) && decide (meth.sig.returnType = rt) && !meth.locks && decide (parseMethodDescriptor y.desc = some meth.sig)) = true) : (Jvm.Cond.code y bytes mx rt).before a s = true := by
  simp only [Bool.and_eq_true, beq_iff_eq, Bool.not_eq_true', decide_eq_true_eq] at h5
  obtain ⟨⟨⟨⟨⟨g1, g2⟩, g3⟩, g4⟩, g5⟩, g6⟩ := h5
  simp [Cond.before, Cond.holds, Cond.value, h1, h2, h3, h4, g1, g2, g3, g4, g5, g6]
def isCode : Jvm.Cond → Bool
  | .code _ _ _ _ => true
  | _ => false
theorem all_split {L : List Jvm.Cond} {P : Jvm.Cond → Bool} (h1 : L.all (fun c => isCode c || P c) = true) (h2 : ∀ c ∈ L.filter isCode, P c = true) : L.all P = true := by
  refine List.all_eq_true.mpr fun c hc => ?_
  have h := List.all_eq_true.mp h1 c hc
  rcases Bool.eq_false_or_eq_true (isCode c) with hi | hi
  · exact h2 c (List.mem_filter.mpr ⟨hc, hi⟩)
  · simpa [hi] using h
set_option maxRecDepth 65536 in
theorem w_c0 : (Jvm.Cond.code x code maxLocals ret).before args0 about1 = true := code_word (m := ⟨1, 1⟩) (meth := k1m1) (c := k1c1) (by decide +kernel) rfl rfl rfl (by decide +kernel)
set_option maxRecDepth 65536 in
theorem w_c1 : (Jvm.Cond.code ({ cls := "com/example/bourse/bourse/exchange/BoundedFile", name := "tooLong", desc := "(I)Ljava/io/IOException;" } : Jvm.MethodName) prog_8_method_3_code (1 : Nat) (Option.some (Jvm.ClassFile.FieldType.object "java/io/IOException"))).before args0 about1 = true := code_word (m := ⟨2, 1⟩) (meth := k2m1) (c := k2c1) (by decide +kernel) rfl rfl rfl (by decide +kernel)
set_option maxRecDepth 65536 in
theorem w_c2 : (Jvm.Cond.code ({ cls := "java/lang/StringBuilder", name := "<init>", desc := "()V" } : Jvm.MethodName) jdk_67_method_1_code (1 : Nat) (Option.none : Option Jvm.ClassFile.FieldType)).before args0 about1 = true := code_word (m := ⟨11, 0⟩) (meth := k11m0) (c := k11c0) (by decide +kernel) rfl rfl rfl (by decide +kernel)
set_option maxRecDepth 65536 in
theorem w_c3 : (Jvm.Cond.code ({ cls := "java/lang/AbstractStringBuilder", name := "<init>", desc := "(I)V" } : Jvm.MethodName) jdk_68_method_2_code (2 : Nat) (Option.none : Option Jvm.ClassFile.FieldType)).before args0 about1 = true := code_word (m := ⟨9, 1⟩) (meth := k9m1) (c := k9c1) (by decide +kernel) rfl rfl rfl (by decide +kernel)
set_option maxRecDepth 65536 in
theorem w_c4 : (Jvm.Cond.code ({ cls := "java/lang/Object", name := "<init>", desc := "()V" } : Jvm.MethodName) object_method_1_code (1 : Nat) (Option.none : Option Jvm.ClassFile.FieldType)).before args0 about1 = true := code_word (m := ⟨0, 0⟩) (meth := k0m0) (c := k0c0) (by decide +kernel) rfl rfl rfl (by decide +kernel)
set_option maxRecDepth 65536 in
theorem w_c5 : (Jvm.Cond.code ({ cls := "java/lang/StringBuilder", name := "append", desc := "(Ljava/lang/String;)Ljava/lang/StringBuilder;" } : Jvm.MethodName) jdk_67_method_7_code (2 : Nat) (Option.some (Jvm.ClassFile.FieldType.object "java/lang/StringBuilder"))).before args0 about1 = true := code_word (m := ⟨11, 1⟩) (meth := k11m1) (c := k11c1) (by decide +kernel) rfl rfl rfl (by decide +kernel)
set_option maxRecDepth 65536 in
theorem w_c6 : (Jvm.Cond.code ({ cls := "java/lang/AbstractStringBuilder", name := "append", desc := "(Ljava/lang/String;)Ljava/lang/AbstractStringBuilder;" } : Jvm.MethodName) jdk_68_method_22_code (3 : Nat) (Option.some (Jvm.ClassFile.FieldType.object "java/lang/AbstractStringBuilder"))).before args0 about1 = true := code_word (m := ⟨9, 5⟩) (meth := k9m5) (c := k9c5) (by decide +kernel) rfl rfl rfl (by decide +kernel)
set_option maxRecDepth 65536 in
theorem w_c7 : (Jvm.Cond.code ({ cls := "java/lang/String", name := "length", desc := "()I" } : Jvm.MethodName) jdk_42_method_54_code (1 : Nat) (Option.some Jvm.ClassFile.FieldType.int)).before args0 about1 = true := code_word (m := ⟨14, 2⟩) (meth := k14m2) (c := k14c2) (by decide +kernel) rfl rfl rfl (by decide +kernel)
set_option maxRecDepth 65536 in
theorem w_c8 : (Jvm.Cond.code ({ cls := "java/lang/String", name := "coder", desc := "()B" } : Jvm.MethodName) jdk_42_method_152_code (1 : Nat) (Option.some Jvm.ClassFile.FieldType.byte)).before args0 about1 = true := code_word (m := ⟨14, 6⟩) (meth := k14m6) (c := k14c6) (by decide +kernel) rfl rfl rfl (by decide +kernel)
set_option maxRecDepth 65536 in
theorem w_c9 : (Jvm.Cond.code ({ cls := "java/lang/AbstractStringBuilder", name := "ensureCapacityInternal", desc := "(I)V" } : Jvm.MethodName) jdk_68_method_9_code (3 : Nat) (Option.none : Option Jvm.ClassFile.FieldType)).before args0 about1 = true := code_word (m := ⟨9, 3⟩) (meth := k9m3) (c := k9c3) (by decide +kernel) rfl rfl rfl (by decide +kernel)
set_option maxRecDepth 65536 in
theorem w_c10 : (Jvm.Cond.code ({ cls := "java/lang/AbstractStringBuilder", name := "putStringAt", desc := "(ILjava/lang/String;)V" } : Jvm.MethodName) jdk_68_method_73_code (3 : Nat) (Option.none : Option Jvm.ClassFile.FieldType)).before args0 about1 = true := code_word (m := ⟨9, 10⟩) (meth := k9m10) (c := k9c10) (by decide +kernel) rfl rfl rfl (by decide +kernel)
set_option maxRecDepth 65536 in
theorem w_c11 : (Jvm.Cond.code ({ cls := "java/lang/AbstractStringBuilder", name := "inflateIfNeededFor", desc := "(Ljava/lang/String;)V" } : Jvm.MethodName) jdk_68_method_71_code (2 : Nat) (Option.none : Option Jvm.ClassFile.FieldType)).before args0 about1 = true := code_word (m := ⟨9, 9⟩) (meth := k9m9) (c := k9c9) (by decide +kernel) rfl rfl rfl (by decide +kernel)
set_option maxRecDepth 65536 in
theorem w_c12 : (Jvm.Cond.code ({ cls := "java/lang/String", name := "getBytes", desc := "([BIB)V" } : Jvm.MethodName) jdk_42_method_147_code (4 : Nat) (Option.none : Option Jvm.ClassFile.FieldType)).before args0 about1 = true := code_word (m := ⟨14, 4⟩) (meth := k14m4) (c := k14c4) (by decide +kernel) rfl rfl rfl (by decide +kernel)
set_option maxRecDepth 65536 in
theorem w_c13 : (Jvm.Cond.code ({ cls := "java/lang/StringBuilder", name := "append", desc := "(I)Ljava/lang/StringBuilder;" } : Jvm.MethodName) jdk_67_method_15_code (2 : Nat) (Option.some (Jvm.ClassFile.FieldType.object "java/lang/StringBuilder"))).before args0 about1 = true := code_word (m := ⟨11, 2⟩) (meth := k11m2) (c := k11c2) (by decide +kernel) rfl rfl rfl (by decide +kernel)
set_option maxRecDepth 65536 in
theorem w_c14 : (Jvm.Cond.code ({ cls := "java/lang/AbstractStringBuilder", name := "append", desc := "(I)Ljava/lang/AbstractStringBuilder;" } : Jvm.MethodName) jdk_68_method_32_code (4 : Nat) (Option.some (Jvm.ClassFile.FieldType.object "java/lang/AbstractStringBuilder"))).before args0 about1 = true := code_word (m := ⟨9, 6⟩) (meth := k9m6) (c := k9c6) (by decide +kernel) rfl rfl rfl (by decide +kernel)
set_option maxRecDepth 65536 in
theorem w_c15 : (Jvm.Cond.code ({ cls := "java/lang/Integer", name := "stringSize", desc := "(I)I" } : Jvm.MethodName) jdk_33_method_13_code (4 : Nat) (Option.some Jvm.ClassFile.FieldType.int)).before args0 about1 = true := code_word (m := ⟨17, 1⟩) (meth := k17m1) (c := k17c1) (by decide +kernel) rfl rfl rfl (by decide +kernel)
set_option maxRecDepth 65536 in
theorem w_c16 : (Jvm.Cond.code ({ cls := "java/lang/AbstractStringBuilder", name := "isLatin1", desc := "()Z" } : Jvm.MethodName) jdk_68_method_68_code (1 : Nat) (Option.some Jvm.ClassFile.FieldType.boolean)).before args0 about1 = true := code_word (m := ⟨9, 8⟩) (meth := k9m8) (c := k9c8) (by decide +kernel) rfl rfl rfl (by decide +kernel)
set_option maxRecDepth 65536 in
theorem w_c17 : (Jvm.Cond.code ({ cls := "java/lang/Integer", name := "getChars", desc := "(II[B)I" } : Jvm.MethodName) jdk_33_method_12_code (7 : Nat) (Option.some Jvm.ClassFile.FieldType.int)).before args0 about1 = true := code_word (m := ⟨17, 0⟩) (meth := k17m0) (c := k17c0) (by decide +kernel) rfl rfl rfl (by decide +kernel)
set_option maxRecDepth 65536 in
theorem w_c18 : (Jvm.Cond.code ({ cls := "java/lang/AbstractStringBuilder", name := "newCapacity", desc := "(I)I" } : Jvm.MethodName) jdk_68_method_10_code (6 : Nat) (Option.some Jvm.ClassFile.FieldType.int)).before args0 about1 = true := code_word (m := ⟨9, 4⟩) (meth := k9m4) (c := k9c4) (by decide +kernel) rfl rfl rfl (by decide +kernel)
set_option maxRecDepth 65536 in
theorem w_c19 : (Jvm.Cond.code ({ cls := "jdk/internal/util/ArraysSupport", name := "newLength", desc := "(III)I" } : Jvm.MethodName) jdk_48_method_27_code (4 : Nat) (Option.some Jvm.ClassFile.FieldType.int)).before args0 about1 = true := code_word (m := ⟨18, 1⟩) (meth := k18m1) (c := k18c1) (by decide +kernel) rfl rfl rfl (by decide +kernel)
set_option maxRecDepth 65536 in
theorem w_c20 : (Jvm.Cond.code ({ cls := "java/lang/Math", name := "max", desc := "(II)I" } : Jvm.MethodName) jdk_29_method_65_code (2 : Nat) (Option.some Jvm.ClassFile.FieldType.int)).before args0 about1 = true := code_word (m := ⟨19, 1⟩) (meth := k19m1) (c := k19c1) (by decide +kernel) rfl rfl rfl (by decide +kernel)
set_option maxRecDepth 65536 in
theorem w_c21 : (Jvm.Cond.code ({ cls := "java/util/Arrays", name := "copyOf", desc := "([BI)[B" } : Jvm.MethodName) jdk_65_method_121_code (3 : Nat) (Option.some (Jvm.ClassFile.FieldType.array Jvm.ClassFile.FieldType.byte))).before args0 about1 = true := code_word (m := ⟨20, 1⟩) (meth := k20m1) (c := k20c1) (by decide +kernel) rfl rfl rfl (by decide +kernel)
set_option maxRecDepth 65536 in
theorem w_c22 : (Jvm.Cond.code ({ cls := "java/lang/Math", name := "min", desc := "(II)I" } : Jvm.MethodName) jdk_29_method_69_code (2 : Nat) (Option.some Jvm.ClassFile.FieldType.int)).before args0 about1 = true := code_word (m := ⟨19, 2⟩) (meth := k19m2) (c := k19c2) (by decide +kernel) rfl rfl rfl (by decide +kernel)
set_option maxRecDepth 65536 in
theorem w_c23 : (Jvm.Cond.code ({ cls := "java/lang/StringBuilder", name := "toString", desc := "()Ljava/lang/String;" } : Jvm.MethodName) jdk_67_method_42_code (1 : Nat) (Option.some (Jvm.ClassFile.FieldType.object "java/lang/String"))).before args0 about1 = true := code_word (m := ⟨11, 3⟩) (meth := k11m3) (c := k11c3) (by decide +kernel) rfl rfl rfl (by decide +kernel)
set_option maxRecDepth 65536 in
theorem w_c24 : (Jvm.Cond.code ({ cls := "java/lang/String", name := "<init>", desc := "(Ljava/lang/StringBuilder;)V" } : Jvm.MethodName) jdk_42_method_53_code (2 : Nat) (Option.none : Option Jvm.ClassFile.FieldType)).before args0 about1 = true := code_word (m := ⟨14, 1⟩) (meth := k14m1) (c := k14c1) (by decide +kernel) rfl rfl rfl (by decide +kernel)
set_option maxRecDepth 65536 in
theorem w_c25 : (Jvm.Cond.code ({ cls := "java/lang/String", name := "<init>", desc := "(Ljava/lang/AbstractStringBuilder;Ljava/lang/Void;)V" } : Jvm.MethodName) jdk_42_method_150_code (5 : Nat) (Option.none : Option Jvm.ClassFile.FieldType)).before args0 about1 = true := code_word (m := ⟨14, 5⟩) (meth := k14m5) (c := k14c5) (by decide +kernel) rfl rfl rfl (by decide +kernel)
set_option maxRecDepth 65536 in
theorem w_c26 : (Jvm.Cond.code ({ cls := "java/lang/AbstractStringBuilder", name := "getValue", desc := "()[B" } : Jvm.MethodName) jdk_68_method_64_code (1 : Nat) (Option.some (Jvm.ClassFile.FieldType.array Jvm.ClassFile.FieldType.byte))).before args0 about1 = true := code_word (m := ⟨9, 7⟩) (meth := k9m7) (c := k9c7) (by decide +kernel) rfl rfl rfl (by decide +kernel)
set_option maxRecDepth 65536 in
theorem w_c27 : (Jvm.Cond.code ({ cls := "java/lang/StringBuilder", name := "length", desc := "()I" } : Jvm.MethodName) jdk_67_method_93_code (1 : Nat) (Option.some Jvm.ClassFile.FieldType.int)).before args0 about1 = true := code_word (m := ⟨11, 4⟩) (meth := k11m4) (c := k11c4) (by decide +kernel) rfl rfl rfl (by decide +kernel)
set_option maxRecDepth 65536 in
theorem w_c28 : (Jvm.Cond.code ({ cls := "java/lang/AbstractStringBuilder", name := "length", desc := "()I" } : Jvm.MethodName) jdk_68_method_6_code (1 : Nat) (Option.some Jvm.ClassFile.FieldType.int)).before args0 about1 = true := code_word (m := ⟨9, 2⟩) (meth := k9m2) (c := k9c2) (by decide +kernel) rfl rfl rfl (by decide +kernel)
set_option maxRecDepth 65536 in
theorem w_c29 : (Jvm.Cond.code ({ cls := "java/util/Arrays", name := "copyOfRange", desc := "([BII)[B" } : Jvm.MethodName) jdk_65_method_132_code (3 : Nat) (Option.some (Jvm.ClassFile.FieldType.array Jvm.ClassFile.FieldType.byte))).before args0 about1 = true := code_word (m := ⟨20, 3⟩) (meth := k20m3) (c := k20c3) (by decide +kernel) rfl rfl rfl (by decide +kernel)
set_option maxRecDepth 65536 in
theorem w_c30 : (Jvm.Cond.code ({ cls := "java/util/Arrays", name := "copyOfRangeByte", desc := "([BII)[B" } : Jvm.MethodName) jdk_65_method_133_code (5 : Nat) (Option.some (Jvm.ClassFile.FieldType.array Jvm.ClassFile.FieldType.byte))).before args0 about1 = true := code_word (m := ⟨20, 4⟩) (meth := k20m4) (c := k20c4) (by decide +kernel) rfl rfl rfl (by decide +kernel)
set_option maxRecDepth 65536 in
theorem w_c31 : (Jvm.Cond.code ({ cls := "java/util/Arrays", name := "checkLength", desc := "(II)V" } : Jvm.MethodName) jdk_65_method_131_code (2 : Nat) (Option.none : Option Jvm.ClassFile.FieldType)).before args0 about1 = true := code_word (m := ⟨20, 2⟩) (meth := k20m2) (c := k20c2) (by decide +kernel) rfl rfl rfl (by decide +kernel)
set_option maxRecDepth 65536 in
theorem w_c32 : (Jvm.Cond.code ({ cls := "java/io/IOException", name := "<init>", desc := "(Ljava/lang/String;)V" } : Jvm.MethodName) jdk_131_method_2_code (2 : Nat) (Option.none : Option Jvm.ClassFile.FieldType)).before args0 about1 = true := code_word (m := ⟨6, 1⟩) (meth := k6m1) (c := k6c1) (by decide +kernel) rfl rfl rfl (by decide +kernel)
set_option maxRecDepth 65536 in
theorem w_c33 : (Jvm.Cond.code ({ cls := "java/lang/Exception", name := "<init>", desc := "(Ljava/lang/String;)V" } : Jvm.MethodName) jdk_59_method_2_code (2 : Nat) (Option.none : Option Jvm.ClassFile.FieldType)).before args0 about1 = true := code_word (m := ⟨5, 1⟩) (meth := k5m1) (c := k5c1) (by decide +kernel) rfl rfl rfl (by decide +kernel)
set_option maxRecDepth 65536 in
theorem w_c34 : (Jvm.Cond.code ({ cls := "java/lang/Throwable", name := "<init>", desc := "(Ljava/lang/String;)V" } : Jvm.MethodName) jdk_78_method_2_code (2 : Nat) (Option.none : Option Jvm.ClassFile.FieldType)).before args0 about1 = true := code_word (m := ⟨4, 1⟩) (meth := k4m1) (c := k4c1) (by decide +kernel) rfl rfl rfl (by decide +kernel)
set_option maxRecDepth 65536 in
theorem w_c35 : (Jvm.Cond.code ({ cls := "java/lang/Throwable", name := "<init>", desc := "()V" } : Jvm.MethodName) jdk_78_method_1_code (1 : Nat) (Option.none : Option Jvm.ClassFile.FieldType)).before args0 about1 = true := code_word (m := ⟨4, 0⟩) (meth := k4m0) (c := k4c0) (by decide +kernel) rfl rfl rfl (by decide +kernel)
set_option maxRecDepth 65536 in
theorem w_c36 : (Jvm.Cond.code ({ cls := "java/lang/Throwable", name := "getMessage", desc := "()Ljava/lang/String;" } : Jvm.MethodName) jdk_78_method_6_code (1 : Nat) (Option.some (Jvm.ClassFile.FieldType.object "java/lang/String"))).before args0 about1 = true := code_word (m := ⟨4, 2⟩) (meth := k4m2) (c := k4c2) (by decide +kernel) rfl rfl rfl (by decide +kernel)
set_option maxRecDepth 65536 in
theorem w_c37 : (Jvm.Cond.code ({ cls := "com/example/bourse/bourse/exchange/BoundedFileTooLongPinLaw", name := "digits", desc := "(J)I" } : Jvm.MethodName) method_4_code (2 : Nat) (Option.some Jvm.ClassFile.FieldType.int)).before args0 about1 = true := code_word (m := ⟨1, 3⟩) (meth := k1m3) (c := k1c3) (by decide +kernel) rfl rfl rfl (by decide +kernel)
set_option maxRecDepth 65536 in
theorem w_c38 : (Jvm.Cond.code ({ cls := "com/example/bourse/bourse/exchange/BoundedFileTooLongPinLaw", name := "at", desc := "(Ljava/lang/String;ILjava/lang/String;I)Z" } : Jvm.MethodName) method_3_code (4 : Nat) (Option.some Jvm.ClassFile.FieldType.boolean)).before args0 about1 = true := code_word (m := ⟨1, 2⟩) (meth := k1m2) (c := k1c2) (by decide +kernel) rfl rfl rfl (by decide +kernel)
set_option maxRecDepth 65536 in
theorem w_c39 : (Jvm.Cond.code ({ cls := "java/lang/String", name := "charAt", desc := "(I)C" } : Jvm.MethodName) jdk_42_method_56_code (2 : Nat) (Option.some Jvm.ClassFile.FieldType.char)).before args0 about1 = true := code_word (m := ⟨14, 3⟩) (meth := k14m3) (c := k14c3) (by decide +kernel) rfl rfl rfl (by decide +kernel)
set_option maxRecDepth 65536 in
theorem w_c40 : (Jvm.Cond.code ({ cls := "java/lang/String", name := "isLatin1", desc := "()Z" } : Jvm.MethodName) jdk_42_method_154_code (1 : Nat) (Option.some Jvm.ClassFile.FieldType.boolean)).before args0 about1 = true := code_word (m := ⟨14, 7⟩) (meth := k14m7) (c := k14c7) (by decide +kernel) rfl rfl rfl (by decide +kernel)
set_option maxRecDepth 65536 in
theorem w_c41 : (Jvm.Cond.code ({ cls := "java/lang/StringLatin1", name := "charAt", desc := "([BI)C" } : Jvm.MethodName) jdk_43_method_2_code (2 : Nat) (Option.some Jvm.ClassFile.FieldType.char)).before args0 about1 = true := code_word (m := ⟨21, 1⟩) (meth := k21m1) (c := k21c1) (by decide +kernel) rfl rfl rfl (by decide +kernel)
set_option maxRecDepth 65536 in
theorem w_c42 : (Jvm.Cond.code ({ cls := "java/lang/String", name := "checkIndex", desc := "(II)V" } : Jvm.MethodName) jdk_42_method_155_code (2 : Nat) (Option.none : Option Jvm.ClassFile.FieldType)).before args0 about1 = true := code_word (m := ⟨14, 8⟩) (meth := k14m8) (c := k14c8) (by decide +kernel) rfl rfl rfl (by decide +kernel)
set_option maxRecDepth 65536 in
theorem w_c43 : (Jvm.Cond.code ({ cls := "jdk/internal/util/Preconditions", name := "checkIndex", desc := "(IILjava/util/function/BiFunction;)I" } : Jvm.MethodName) jdk_41_method_11_code (3 : Nat) (Option.some Jvm.ClassFile.FieldType.int)).before args0 about1 = true := code_word (m := ⟨22, 1⟩) (meth := k22m1) (c := k22c1) (by decide +kernel) rfl rfl rfl (by decide +kernel)
set_option maxRecDepth 65536 in
theorem w_c44 : (Jvm.Cond.code ({ cls := "com/example/bourse/bourse/exchange/BoundedFileTooLongPinLaw", name := "d", desc := "(Ljava/lang/String;IIJI)Z" } : Jvm.MethodName) method_6_code (9 : Nat) (Option.some Jvm.ClassFile.FieldType.boolean)).before args0 about1 = true := code_word (m := ⟨1, 5⟩) (meth := k1m5) (c := k1c5) (by decide +kernel) rfl rfl rfl (by decide +kernel)
set_option maxRecDepth 65536 in
theorem w_c45 : (Jvm.Cond.code ({ cls := "com/example/bourse/bourse/exchange/BoundedFileTooLongPinLaw", name := "pow10", desc := "(I)J" } : Jvm.MethodName) method_5_code (1 : Nat) (Option.some Jvm.ClassFile.FieldType.long)).before args0 about1 = true := code_word (m := ⟨1, 4⟩) (meth := k1m4) (c := k1c4) (by decide +kernel) rfl rfl rfl (by decide +kernel)
def codes1 : List Jvm.Cond := [Jvm.Cond.code x code maxLocals ret, Jvm.Cond.code ({ cls := "com/example/bourse/bourse/exchange/BoundedFile", name := "tooLong", desc := "(I)Ljava/io/IOException;" } : Jvm.MethodName) prog_8_method_3_code (1 : Nat) (Option.some (Jvm.ClassFile.FieldType.object "java/io/IOException")), Jvm.Cond.code ({ cls := "java/lang/StringBuilder", name := "<init>", desc := "()V" } : Jvm.MethodName) jdk_67_method_1_code (1 : Nat) (Option.none : Option Jvm.ClassFile.FieldType), Jvm.Cond.code ({ cls := "java/lang/AbstractStringBuilder", name := "<init>", desc := "(I)V" } : Jvm.MethodName) jdk_68_method_2_code (2 : Nat) (Option.none : Option Jvm.ClassFile.FieldType), Jvm.Cond.code ({ cls := "java/lang/Object", name := "<init>", desc := "()V" } : Jvm.MethodName) object_method_1_code (1 : Nat) (Option.none : Option Jvm.ClassFile.FieldType), Jvm.Cond.code ({ cls := "java/lang/StringBuilder", name := "append", desc := "(Ljava/lang/String;)Ljava/lang/StringBuilder;" } : Jvm.MethodName) jdk_67_method_7_code (2 : Nat) (Option.some (Jvm.ClassFile.FieldType.object "java/lang/StringBuilder")), Jvm.Cond.code ({ cls := "java/lang/AbstractStringBuilder", name := "append", desc := "(Ljava/lang/String;)Ljava/lang/AbstractStringBuilder;" } : Jvm.MethodName) jdk_68_method_22_code (3 : Nat) (Option.some (Jvm.ClassFile.FieldType.object "java/lang/AbstractStringBuilder")), Jvm.Cond.code ({ cls := "java/lang/String", name := "length", desc := "()I" } : Jvm.MethodName) jdk_42_method_54_code (1 : Nat) (Option.some Jvm.ClassFile.FieldType.int), Jvm.Cond.code ({ cls := "java/lang/String", name := "coder", desc := "()B" } : Jvm.MethodName) jdk_42_method_152_code (1 : Nat) (Option.some Jvm.ClassFile.FieldType.byte), Jvm.Cond.code ({ cls := "java/lang/AbstractStringBuilder", name := "ensureCapacityInternal", desc := "(I)V" } : Jvm.MethodName) jdk_68_method_9_code (3 : Nat) (Option.none : Option Jvm.ClassFile.FieldType), Jvm.Cond.code ({ cls := "java/lang/AbstractStringBuilder", name := "putStringAt", desc := "(ILjava/lang/String;)V" } : Jvm.MethodName) jdk_68_method_73_code (3 : Nat) (Option.none : Option Jvm.ClassFile.FieldType), Jvm.Cond.code ({ cls := "java/lang/AbstractStringBuilder", name := "inflateIfNeededFor", desc := "(Ljava/lang/String;)V" } : Jvm.MethodName) jdk_68_method_71_code (2 : Nat) (Option.none : Option Jvm.ClassFile.FieldType), Jvm.Cond.code ({ cls := "java/lang/String", name := "getBytes", desc := "([BIB)V" } : Jvm.MethodName) jdk_42_method_147_code (4 : Nat) (Option.none : Option Jvm.ClassFile.FieldType), Jvm.Cond.code ({ cls := "java/lang/StringBuilder", name := "append", desc := "(I)Ljava/lang/StringBuilder;" } : Jvm.MethodName) jdk_67_method_15_code (2 : Nat) (Option.some (Jvm.ClassFile.FieldType.object "java/lang/StringBuilder")), Jvm.Cond.code ({ cls := "java/lang/AbstractStringBuilder", name := "append", desc := "(I)Ljava/lang/AbstractStringBuilder;" } : Jvm.MethodName) jdk_68_method_32_code (4 : Nat) (Option.some (Jvm.ClassFile.FieldType.object "java/lang/AbstractStringBuilder")), Jvm.Cond.code ({ cls := "java/lang/Integer", name := "stringSize", desc := "(I)I" } : Jvm.MethodName) jdk_33_method_13_code (4 : Nat) (Option.some Jvm.ClassFile.FieldType.int), Jvm.Cond.code ({ cls := "java/lang/AbstractStringBuilder", name := "isLatin1", desc := "()Z" } : Jvm.MethodName) jdk_68_method_68_code (1 : Nat) (Option.some Jvm.ClassFile.FieldType.boolean), Jvm.Cond.code ({ cls := "java/lang/Integer", name := "getChars", desc := "(II[B)I" } : Jvm.MethodName) jdk_33_method_12_code (7 : Nat) (Option.some Jvm.ClassFile.FieldType.int), Jvm.Cond.code ({ cls := "java/lang/AbstractStringBuilder", name := "newCapacity", desc := "(I)I" } : Jvm.MethodName) jdk_68_method_10_code (6 : Nat) (Option.some Jvm.ClassFile.FieldType.int), Jvm.Cond.code ({ cls := "jdk/internal/util/ArraysSupport", name := "newLength", desc := "(III)I" } : Jvm.MethodName) jdk_48_method_27_code (4 : Nat) (Option.some Jvm.ClassFile.FieldType.int), Jvm.Cond.code ({ cls := "java/lang/Math", name := "max", desc := "(II)I" } : Jvm.MethodName) jdk_29_method_65_code (2 : Nat) (Option.some Jvm.ClassFile.FieldType.int), Jvm.Cond.code ({ cls := "java/util/Arrays", name := "copyOf", desc := "([BI)[B" } : Jvm.MethodName) jdk_65_method_121_code (3 : Nat) (Option.some (Jvm.ClassFile.FieldType.array Jvm.ClassFile.FieldType.byte)), Jvm.Cond.code ({ cls := "java/lang/Math", name := "min", desc := "(II)I" } : Jvm.MethodName) jdk_29_method_69_code (2 : Nat) (Option.some Jvm.ClassFile.FieldType.int), Jvm.Cond.code ({ cls := "java/lang/StringBuilder", name := "toString", desc := "()Ljava/lang/String;" } : Jvm.MethodName) jdk_67_method_42_code (1 : Nat) (Option.some (Jvm.ClassFile.FieldType.object "java/lang/String")), Jvm.Cond.code ({ cls := "java/lang/String", name := "<init>", desc := "(Ljava/lang/StringBuilder;)V" } : Jvm.MethodName) jdk_42_method_53_code (2 : Nat) (Option.none : Option Jvm.ClassFile.FieldType), Jvm.Cond.code ({ cls := "java/lang/String", name := "<init>", desc := "(Ljava/lang/AbstractStringBuilder;Ljava/lang/Void;)V" } : Jvm.MethodName) jdk_42_method_150_code (5 : Nat) (Option.none : Option Jvm.ClassFile.FieldType), Jvm.Cond.code ({ cls := "java/lang/AbstractStringBuilder", name := "getValue", desc := "()[B" } : Jvm.MethodName) jdk_68_method_64_code (1 : Nat) (Option.some (Jvm.ClassFile.FieldType.array Jvm.ClassFile.FieldType.byte)), Jvm.Cond.code ({ cls := "java/lang/StringBuilder", name := "length", desc := "()I" } : Jvm.MethodName) jdk_67_method_93_code (1 : Nat) (Option.some Jvm.ClassFile.FieldType.int), Jvm.Cond.code ({ cls := "java/lang/AbstractStringBuilder", name := "length", desc := "()I" } : Jvm.MethodName) jdk_68_method_6_code (1 : Nat) (Option.some Jvm.ClassFile.FieldType.int), Jvm.Cond.code ({ cls := "java/util/Arrays", name := "copyOfRange", desc := "([BII)[B" } : Jvm.MethodName) jdk_65_method_132_code (3 : Nat) (Option.some (Jvm.ClassFile.FieldType.array Jvm.ClassFile.FieldType.byte)), Jvm.Cond.code ({ cls := "java/util/Arrays", name := "copyOfRangeByte", desc := "([BII)[B" } : Jvm.MethodName) jdk_65_method_133_code (5 : Nat) (Option.some (Jvm.ClassFile.FieldType.array Jvm.ClassFile.FieldType.byte)), Jvm.Cond.code ({ cls := "java/util/Arrays", name := "checkLength", desc := "(II)V" } : Jvm.MethodName) jdk_65_method_131_code (2 : Nat) (Option.none : Option Jvm.ClassFile.FieldType), Jvm.Cond.code ({ cls := "java/io/IOException", name := "<init>", desc := "(Ljava/lang/String;)V" } : Jvm.MethodName) jdk_131_method_2_code (2 : Nat) (Option.none : Option Jvm.ClassFile.FieldType), Jvm.Cond.code ({ cls := "java/lang/Exception", name := "<init>", desc := "(Ljava/lang/String;)V" } : Jvm.MethodName) jdk_59_method_2_code (2 : Nat) (Option.none : Option Jvm.ClassFile.FieldType), Jvm.Cond.code ({ cls := "java/lang/Throwable", name := "<init>", desc := "(Ljava/lang/String;)V" } : Jvm.MethodName) jdk_78_method_2_code (2 : Nat) (Option.none : Option Jvm.ClassFile.FieldType), Jvm.Cond.code ({ cls := "java/lang/Throwable", name := "<init>", desc := "()V" } : Jvm.MethodName) jdk_78_method_1_code (1 : Nat) (Option.none : Option Jvm.ClassFile.FieldType), Jvm.Cond.code ({ cls := "java/lang/Throwable", name := "getMessage", desc := "()Ljava/lang/String;" } : Jvm.MethodName) jdk_78_method_6_code (1 : Nat) (Option.some (Jvm.ClassFile.FieldType.object "java/lang/String")), Jvm.Cond.code ({ cls := "com/example/bourse/bourse/exchange/BoundedFileTooLongPinLaw", name := "digits", desc := "(J)I" } : Jvm.MethodName) method_4_code (2 : Nat) (Option.some Jvm.ClassFile.FieldType.int), Jvm.Cond.code ({ cls := "com/example/bourse/bourse/exchange/BoundedFileTooLongPinLaw", name := "at", desc := "(Ljava/lang/String;ILjava/lang/String;I)Z" } : Jvm.MethodName) method_3_code (4 : Nat) (Option.some Jvm.ClassFile.FieldType.boolean), Jvm.Cond.code ({ cls := "java/lang/String", name := "charAt", desc := "(I)C" } : Jvm.MethodName) jdk_42_method_56_code (2 : Nat) (Option.some Jvm.ClassFile.FieldType.char), Jvm.Cond.code ({ cls := "java/lang/String", name := "isLatin1", desc := "()Z" } : Jvm.MethodName) jdk_42_method_154_code (1 : Nat) (Option.some Jvm.ClassFile.FieldType.boolean), Jvm.Cond.code ({ cls := "java/lang/StringLatin1", name := "charAt", desc := "([BI)C" } : Jvm.MethodName) jdk_43_method_2_code (2 : Nat) (Option.some Jvm.ClassFile.FieldType.char), Jvm.Cond.code ({ cls := "java/lang/String", name := "checkIndex", desc := "(II)V" } : Jvm.MethodName) jdk_42_method_155_code (2 : Nat) (Option.none : Option Jvm.ClassFile.FieldType), Jvm.Cond.code ({ cls := "jdk/internal/util/Preconditions", name := "checkIndex", desc := "(IILjava/util/function/BiFunction;)I" } : Jvm.MethodName) jdk_41_method_11_code (3 : Nat) (Option.some Jvm.ClassFile.FieldType.int), Jvm.Cond.code ({ cls := "com/example/bourse/bourse/exchange/BoundedFileTooLongPinLaw", name := "d", desc := "(Ljava/lang/String;IIJI)Z" } : Jvm.MethodName) method_6_code (9 : Nat) (Option.some Jvm.ClassFile.FieldType.boolean), Jvm.Cond.code ({ cls := "com/example/bourse/bourse/exchange/BoundedFileTooLongPinLaw", name := "pow10", desc := "(I)J" } : Jvm.MethodName) method_5_code (1 : Nat) (Option.some Jvm.ClassFile.FieldType.long)]
set_option maxRecDepth 65536 in
theorem codes_eq : words1.filter isCode = codes1 := rfl
theorem w_codes : ∀ c ∈ words1.filter isCode, c.before args0 about1 = true := by
  rw [codes_eq]
  intro c hc
  simp only [codes1, List.mem_cons, List.not_mem_nil, or_false] at hc
  rcases hc with rfl | rfl | rfl | rfl | rfl | rfl | rfl | rfl | rfl | rfl | rfl | rfl | rfl | rfl | rfl | rfl | rfl | rfl | rfl | rfl | rfl | rfl | rfl | rfl | rfl | rfl | rfl | rfl | rfl | rfl | rfl | rfl | rfl | rfl | rfl | rfl | rfl | rfl | rfl | rfl | rfl | rfl | rfl | rfl | rfl | rfl
  · exact w_c0
  · exact w_c1
  · exact w_c2
  · exact w_c3
  · exact w_c4
  · exact w_c5
  · exact w_c6
  · exact w_c7
  · exact w_c8
  · exact w_c9
  · exact w_c10
  · exact w_c11
  · exact w_c12
  · exact w_c13
  · exact w_c14
  · exact w_c15
  · exact w_c16
  · exact w_c17
  · exact w_c18
  · exact w_c19
  · exact w_c20
  · exact w_c21
  · exact w_c22
  · exact w_c23
  · exact w_c24
  · exact w_c25
  · exact w_c26
  · exact w_c27
  · exact w_c28
  · exact w_c29
  · exact w_c30
  · exact w_c31
  · exact w_c32
  · exact w_c33
  · exact w_c34
  · exact w_c35
  · exact w_c36
  · exact w_c37
  · exact w_c38
  · exact w_c39
  · exact w_c40
  · exact w_c41
  · exact w_c42
  · exact w_c43
  · exact w_c44
  · exact w_c45
set_option maxRecDepth 65536 in
theorem w_t1 : (words1.take 24).all (fun c => isCode c || c.before args0 about1) = true := by decide +kernel
set_option maxRecDepth 65536 in
theorem w_t2 : ((words1.drop 24).take 24).all (fun c => isCode c || c.before args0 about1) = true := by decide +kernel
set_option maxRecDepth 65536 in
theorem w_t3 : (((words1.drop 24).drop 24).take 24).all (fun c => isCode c || c.before args0 about1) = true := by decide +kernel
set_option maxRecDepth 65536 in
theorem w_t4 : ((((words1.drop 24).drop 24).drop 24).take 24).all (fun c => isCode c || c.before args0 about1) = true := by decide +kernel
set_option maxRecDepth 65536 in
theorem w_t5 : (((((words1.drop 24).drop 24).drop 24).drop 24).take 24).all (fun c => isCode c || c.before args0 about1) = true := by decide +kernel
set_option maxRecDepth 65536 in
theorem w_t6 : ((((((words1.drop 24).drop 24).drop 24).drop 24).drop 24).take 24).all (fun c => isCode c || c.before args0 about1) = true := by decide +kernel
set_option maxRecDepth 65536 in
theorem w_t7 : (((((((words1.drop 24).drop 24).drop 24).drop 24).drop 24).drop 24).take 24).all (fun c => isCode c || c.before args0 about1) = true := by decide +kernel
set_option maxRecDepth 65536 in
theorem w_t8 : ((((((((words1.drop 24).drop 24).drop 24).drop 24).drop 24).drop 24).drop 24).take 24).all (fun c => isCode c || c.before args0 about1) = true := by decide +kernel
set_option maxRecDepth 65536 in
theorem w_t9 : (((((((((words1.drop 24).drop 24).drop 24).drop 24).drop 24).drop 24).drop 24).drop 24).take 24).all (fun c => isCode c || c.before args0 about1) = true := by decide +kernel
set_option maxRecDepth 65536 in
theorem w_t10 : ((((((((((words1.drop 24).drop 24).drop 24).drop 24).drop 24).drop 24).drop 24).drop 24).drop 24).take 24).all (fun c => isCode c || c.before args0 about1) = true := by decide +kernel
set_option maxRecDepth 65536 in
theorem w_t11 : (((((((((((words1.drop 24).drop 24).drop 24).drop 24).drop 24).drop 24).drop 24).drop 24).drop 24).drop 24).take 24).all (fun c => isCode c || c.before args0 about1) = true := by decide +kernel
set_option maxRecDepth 65536 in
theorem w_t12 : (((((((((((words1.drop 24).drop 24).drop 24).drop 24).drop 24).drop 24).drop 24).drop 24).drop 24).drop 24).drop 24).all (fun c => isCode c || c.before args0 about1) = true := by decide +kernel
theorem w_tables : (allAtoms (Jvm.Cond.code x code maxLocals ret :: tables_1)).before args0 about1 = true := by
  rw [allAtoms_all]
  show words1.all (fun c => c.before args0 about1) = true
  refine all_split ?_ w_codes
  rw [← List.take_append_drop 24 words1, List.all_append, w_t1, ← List.take_append_drop 24 (words1.drop 24), List.all_append, w_t2, ← List.take_append_drop 24 ((words1.drop 24).drop 24), List.all_append, w_t3, ← List.take_append_drop 24 (((words1.drop 24).drop 24).drop 24), List.all_append, w_t4, ← List.take_append_drop 24 ((((words1.drop 24).drop 24).drop 24).drop 24), List.all_append, w_t5, ← List.take_append_drop 24 (((((words1.drop 24).drop 24).drop 24).drop 24).drop 24), List.all_append, w_t6, ← List.take_append_drop 24 ((((((words1.drop 24).drop 24).drop 24).drop 24).drop 24).drop 24), List.all_append, w_t7, ← List.take_append_drop 24 (((((((words1.drop 24).drop 24).drop 24).drop 24).drop 24).drop 24).drop 24), List.all_append, w_t8, ← List.take_append_drop 24 ((((((((words1.drop 24).drop 24).drop 24).drop 24).drop 24).drop 24).drop 24).drop 24), List.all_append, w_t9, ← List.take_append_drop 24 (((((((((words1.drop 24).drop 24).drop 24).drop 24).drop 24).drop 24).drop 24).drop 24).drop 24), List.all_append, w_t10, ← List.take_append_drop 24 ((((((((((words1.drop 24).drop 24).drop 24).drop 24).drop 24).drop 24).drop 24).drop 24).drop 24).drop 24), List.all_append, w_t11, w_t12]
  rfl
set_option maxRecDepth 65536 in
theorem w_rest : rest_1_c.before args0 about1 = true := by decide +kernel
set_option maxRecDepth 65536 in
theorem w_case : (Jvm.Cond.and given_1 narrow_1).before args0 about1 = true := by decide +kernel
set_option maxRecDepth 65536 in
theorem w_consts : constsHeld consts_1 about1 := Jvm.Lit.constsHeldB_iff.mp (by decide +kernel)
theorem w_applies : (headSpec (Jvm.Cond.code x code maxLocals ret :: tables_1) room_1).applies x e0.platform about1 = true :=
  (Spec.applies_iff w_frames).mpr ⟨w_running, w_runnable, w_alone, w_named, w_hears, w_ripe, w_room, w_tables⟩
theorem atStart : AtStart classFile x code maxLocals ret World_1 tables_1 room_1 Calls_1 rest_1 Pre_1 launch0 p0 e0 about1 theMethod args0 below0 :=
  ⟨lists_1, trivial, launch0.admits_env _ _ _, launch0.least_env, fairChoices_fair.cas, fairChoices_fair.clock, w_frames, w_args, w_heap, w_applies, ⟨(by decide +kernel : framesKnown about1 = true), ⟨(by decide +kernel : tablesKnown about1 = true), ⟨w_consts, trivial⟩⟩⟩, w_rest, w_case⟩
end start1
theorem witness_1 : WitnessClaimed_1 := ⟨start1.p0, start1.e0, start1.about1, start1.theMethod, start1.args0, start1.below0, start1.atStart⟩
end Jvm.Pilot.@@N@@
