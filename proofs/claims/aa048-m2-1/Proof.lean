import JvmDerived
import JvmDerived.Pilot.@@N@@Statement
import JvmDerived.Pilot.@@N@@Code
set_option linter.unusedVariables false
set_option linter.unusedSimpArgs false
namespace Jvm.Pilot.@@N@@
open Jvm Jvm.ClassFile Sem Op Lib Jvm.Free Jvm.Stand Jvm.LawKit Jvm.RoadKit Bundle Jvm.Pilot.@@N@@.Jvm.D
/-! own kit: the goal of a walk as one word, and how a step and a return change it -/
def Gl (tb : Tables) (e : Env) (below : List Frame) (s : State) (Q : Option Value → Heap → List Loc → Prop) (ce sl : Nat) (A : State) : Prop :=
  ∃ s₂ o, Steps tb e below A s₂ ∧ s₂.status = .running ∧ Ended s₂ below o ∧ ∃ v L, o = .returned v ∧ Q v s₂.heap L ∧ FrameEnd s o s₂ L ce sl
theorem Gl.pre {tb : Tables} {e : Env} {below : List Frame} {s : State} {Q : Option Value → Heap → List Loc → Prop} {ce sl : Nat} {A B : State} (h : ∀ t, Steps tb e below B t → Steps tb e below A t) (g : Gl tb e below s Q ce sl B) : Gl tb e below s Q ce sl A := by
  obtain ⟨s2, o, h1, r⟩ := g
  exact ⟨s2, o, h _ h1, r⟩
theorem Gl.out {p : Program} {l : Launch} {e : Env} {R : Room} {s : State} {m : MethodId} {args : Array Value} {below : List Frame} {meth : Method} {c : Code} {T : State} {locs : List Loc} {cells slots : Nat}
    (X : Stand p l e R s m args below meth c T locs cells slots) {Q : Option Value → Heap → List Loc → Prop} {ce sl : Nat} {g : JFrame} {v : Option Value} (hv : meth.sig.returnType = none → v = none) (hlk : meth.locks = false)
    (k : ∀ fs, (∀ (f : JFrame) (acts : List Action), f.method = m → f.locked = none → f.entered = [] → (doReturn e (T.setTop f) acts v).1 = T.setFrames fs) → Steps p.tables e below (T.setTop g) (T.setFrames fs))
    (hq : Q v T.heap locs) (h1 : cells ≤ ce) (h2 : slots ≤ sl) : Gl p.tables e below s Q ce sl (T.setTop g) := by
  obtain ⟨fs, hr, hrun, hended, hW, hsame⟩ := X.leave (v := v) hv hlk
  exact ⟨_, _, k fs hr, hrun, hended, v, locs, rfl, hq, ⟨v, rfl⟩, hW, hsame.mono h1 h2⟩
def bI (b : Bool) : Int32 := if b then 1 else 0
theorem bI_t {b : Bool} (h : b = true) : ¬ bI b = (0 : Int32) := by subst h; decide
theorem bI_f {b : Bool} (h : b = false) : bI b = (0 : Int32) := by subst h; rfl
theorem bI_nar (b : Bool) : nar .boolean (bI b) = bI b := by cases b <;> rfl
theorem bI_inj {a b : Bool} : bI a = bI b ↔ a = b := by cases a <;> cases b <;> decide
theorem own_narO {v : Value} {C : String} (h : v.isRef = true) : narrow (.object C) v = v := by rcases ref_cases h with rfl | ⟨_, rfl⟩ <;> rfl
theorem own_fitO {v : Value} {C : String} (h : v.isRef = true) : fits (.object C) v = true := by rcases ref_cases h with rfl | ⟨_, rfl⟩ <;> rfl
theorem own_ext_refl (h : Heap) : Ext h h := ⟨Nat.le_refl _, fun _ _ q => q⟩
theorem own_ext_ext {hb h h' : Heap} (X : Ext hb h) (E : Ext h h') : Ext hb h' := ⟨Nat.le_trans X.1 E.1, fun a c q => E.2 a c (X.2 a c q)⟩
theorem own_ext_keep {hb h h' : Heap} {ws : List Addr} (X : Ext hb h) (K : Keep h h' ws) (q : ∀ x ∈ ws, hb.size ≤ x) : Ext hb h' := ⟨Nat.le_trans X.1 K.1, fun a c r => K.2.1 a c (X.2 a c r) fun z => absurd (Array.getElem?_eq_some_iff.mp r).1 (Nat.not_lt.mpr (q a z))⟩
theorem own_ext_wr {hb h h' : Heap} {a : Addr} {sl : Nat} {v : Value} (X : Ext hb h) (W : Wr h h' a sl v) (q : hb.size ≤ a) : Ext hb h' := own_ext_keep X (Keep.of_wr W) (allS q all0)
theorem own_declares {Z : State} {a0 : Array Value} {y : MethodName} {bytes : ByteArray} {maxL : Nat} {ret : Option FieldType} (hi : (Jvm.Cond.instanceMethod y).before a0 Z = true) (hc : (Jvm.Cond.code y bytes maxL ret).before a0 Z = true) : (Jvm.Cond.declares y).before a0 Z = true := by
  obtain ⟨mk, methM, hnamed, hmethM, hstM, habM⟩ := Cond.instanceMethod_spec hi
  obtain ⟨methM', cM, hmethM', -, -, -, -, -, -, hsigM⟩ := Cond.code_spec hnamed hc
  cases hmethM.symm.trans hmethM'
  simp [Cond.before, Cond.holds, Cond.value, hnamed, hmethM, hstM, hsigM]
theorem own_shl0 (x : Int32) : x <<< ((0 : Int32) &&& 31) = x := by
  have : (0 : Int32) &&& 31 = 0 := by decide
  rw [this]; simp
theorem own_shr0 (x : Int32) : x >>> ((0 : Int32) &&& 31) = x := by
  have : (0 : Int32) &&& 31 = 0 := by decide
  rw [this]; simp
theorem own_sub0 (x : Int32) : x - (0 : Int32) = x := by simp
theorem own_keep0 {h h' : Heap} (K : Keep h h' []) : Ext h h' := ⟨K.1, fun a c q => K.2.1 a c q nin0⟩

theorem d1_0 : decode prog_3_method_4_code 0 = .ok (.aload_n 0, 1) := by decide +kernel
theorem d1_1 : decode prog_3_method_4_code 1 = .ok (.getstatic 3, 3) := by decide +kernel
theorem d1_4 : decode prog_3_method_4_code 4 = .ok (.if_acmp .eq 10, 3) := by decide +kernel
theorem d1_14 : decode prog_3_method_4_code 14 = .ok (.iconst 1, 1) := by decide +kernel
theorem d1_15 : decode prog_3_method_4_code 15 = .ok (.goto 4, 3) := by decide +kernel
theorem d1_19 : decode prog_3_method_4_code 19 = .ok (.ireturn, 1) := by decide +kernel
theorem d1_7 : decode prog_3_method_4_code 7 = .ok (.aload_n 0, 1) := by decide +kernel
theorem d1_8 : decode prog_3_method_4_code 8 = .ok (.getstatic 7, 3) := by decide +kernel
theorem d1_11 : decode prog_3_method_4_code 11 = .ok (.if_acmp .ne 7, 3) := by decide +kernel
theorem d1_18 : decode prog_3_method_4_code 18 = .ok (.iconst 0, 1) := by decide +kernel
theorem pn_com_example_hanap_hanap_analysis_WordClass : plainName "com/example/hanap/hanap/analysis/WordClass" = true := by first | (simp [plainName, overriddenIn]; done) | decide +kernel
theorem ef_rm1 (m : MethodId) (x0 : Addr) : entryFrame m #[(.ref x0)] 1 = mkF m 0 #[.val (.ref x0)] [] := by first | (simp [entryFrame, mkF, argsToLocals, Value.category]; done) | rfl
def Q_rm1 (Z : State) (a1 : Addr) (wN : Addr) (wM : Addr) (h0 : Heap) (n0 : Nat) (v : Option Value) (h : Heap) (L : List Loc) : Prop := v = some (.int (bI (decide (a1 = wN ∨ a1 = wM)))) ∧ Fr n0 L ∧ (h = h0)
set_option maxRecDepth 65536 in
set_option maxHeartbeats 40000000 in
theorem rm1 (l : Launch) (Z : State) (a0 : Array Value) (hw : ∀ d ∈ tables_1, d.before a0 Z = true) (ws : List Jvm.Cond) (a1 : Addr) (wN : Addr) (wM : Addr) (h0 : Heap) (n0 : Nat) (Z0 : n0 ≤ h0.size) (S_NOUN : Sta Z h0 "com/example/hanap/hanap/analysis/WordClass" "NOUN" "Lcom/example/hanap/hanap/analysis/WordClass;" (.ref wN)) (S_NAME : Sta Z h0 "com/example/hanap/hanap/analysis/WordClass" "NAME" "Lcom/example/hanap/hanap/analysis/WordClass;" (.ref wM)) :
    MetFree l (⟨"com/example/hanap/hanap/analysis/WordClass", "isNoun", "()Z"⟩ : MethodName) (head1 (Jvm.Cond.code (⟨"com/example/hanap/hanap/analysis/WordClass", "isNoun", "()Z"⟩ : MethodName) prog_3_method_4_code 1 (some .boolean) :: ws) ({ frames := 0, cells := 0, slots := 0, locals := 0 } : Room)) (fun a U => a = #[(.ref a1)] ∧ Z.Warmed39 U.vm ∧ U.heap = h0) (fun _ _ _ _ _ => True) (fun _ U o U' => ∃ v L, o = .returned v ∧ Q_rm1 Z a1 wN wM h0 n0 v U'.heap L ∧ FrameEnd U o U' L ({ frames := 0, cells := 0, slots := 0, locals := 0 } : Room).cells ({ frames := 0, cells := 0, slots := 0, locals := 0 } : Room).slots) := by
  refine MetFree.of_bodySF (plainFor_of_name pn_com_example_hanap_hanap_analysis_WordClass) hisR ?_
  intro p e s m args below meth c s₁ Bd hml0 hP hK
  obtain ⟨rfl, hZ, hh⟩ := hP
  have hx := Bd.exec
  have hby := Bd.bytes
  have hml : c.maxLocals = 1 := hml0
  have hown : s.vm.findClass "com/example/hanap/hanap/analysis/WordClass" = some m.cls := findClass_of_methodNamed Bd.named
  have hnm := (name_of_methodNamed Bd.named Bd.method).1
  have hret : meth.sig.returnType = (some .boolean) := Bd.returns
  have hlk : meth.locks = false := BodyLoose.notSynchronized Bd
  have X0 : Stand p l e ({ frames := 0, cells := 0, slots := 0, locals := 0 } : Room) s m #[(.ref a1)] below meth c s₁ [] 0 0 := Stand.of_body Bd
  have e0 : s₁.heap = h0 := by rw [← hh, Bd.state]; rfl
  have N0 := Fr.nil n0
  have K0 : Keep h0 h0 [] := Keep.refl h0 _
  show Gl p.tables e below s (Q_rm1 Z a1 wN wM h0 n0) 0 0 _
  refine Gl.pre (B := s₁.setTop (mkF m 0 #[.val (.ref a1)] [])) (fun _ k => castTop (ef_rm1 m a1) k) ?_
  refine Gl.pre (B := s₁.setTop (mkF m 1 #[.val (.ref a1)] [(.ref a1)])) (fun _ k => XS.aloadN X0.here hx rfl (hb hby d1_0) rfl rfl k) ?_
  obtain ⟨T1, X1, e1, st1⟩ := getS2 X0 hx hZ hown (host := "") (Or.inl (hw _ (List.mem_of_getElem? (i := 8) rfl))) Via.refl e0 S_NOUN (g := (mkF m 1 #[.val (.ref a1)] [(.ref a1)])) rfl (hb hby d1_1)
  refine Gl.pre (B := T1.setTop (mkF m 4 #[.val (.ref a1)] [(.ref wN), (.ref a1)])) (fun _ k => st1 _ k) ?_
  by_cases ha4_2 : a1 = wN
  · refine Gl.pre (B := T1.setTop (mkF m 14 #[.val (.ref a1)] [])) (fun _ k => Jvm.RoadKit.acmp (g := (mkF m 4 #[.val (.ref a1)] [(.ref wN), (.ref a1)])) X1 hx rfl rfl rfl (pc0 := 4) (pc' := 14) (same := true) rfl (hb hby d1_4) rfl (decide_eq_true (congrArg Value.ref ha4_2)) (by decide) (by decide) k) ?_
    refine Gl.pre (B := T1.setTop (mkF m 15 #[.val (.ref a1)] [(.int (1 : Int32))])) (fun _ k => XS.iconst X1.here hx rfl (hb hby d1_14) k) ?_
    refine Gl.pre (B := T1.setTop (mkF m 19 #[.val (.ref a1)] [(.int (1 : Int32))])) (fun _ k => XS.goto X1.here hx rfl (pc0 := 15) (pc' := 19) rfl (hb hby d1_15) (by decide) (by decide) k) ?_
    refine Gl.out X1 (v := some (.int (1 : Int32))) (fun h => by rw [hret] at h; cases h) hlk (fun fs hr => retN X1 hx (t := .boolean) hret (by simp) (hb hby d1_19) hr) ?_ (by decide) (by decide)
    show Q_rm1 Z a1 wN wM h0 n0 _ T1.heap _
    rw [e1]
    exact ⟨by simp [bI, ha4_2], N0, rfl⟩
  · refine Gl.pre (B := T1.setTop (mkF m 7 #[.val (.ref a1)] [])) (fun _ k => Jvm.RoadKit.acmp (g := (mkF m 4 #[.val (.ref a1)] [(.ref wN), (.ref a1)])) X1 hx rfl rfl rfl (pc0 := 4) (pc' := 7) (same := false) rfl (hb hby d1_4) rfl (decide_eq_false fun q => ha4_2 (Value.ref.inj q)) (by decide) (by decide) k) ?_
    refine Gl.pre (B := T1.setTop (mkF m 8 #[.val (.ref a1)] [(.ref a1)])) (fun _ k => XS.aloadN X1.here hx rfl (hb hby d1_7) rfl rfl k) ?_
    obtain ⟨T3, X3, e3, st3⟩ := getS2 X1 hx hZ hown (host := "") (Or.inl (hw _ (List.mem_of_getElem? (i := 11) rfl))) Via.refl e1 S_NAME (g := (mkF m 8 #[.val (.ref a1)] [(.ref a1)])) rfl (hb hby d1_8)
    refine Gl.pre (B := T3.setTop (mkF m 11 #[.val (.ref a1)] [(.ref wM), (.ref a1)])) (fun _ k => st3 _ k) ?_
    by_cases ha11_4 : a1 = wM
    · refine Gl.pre (B := T3.setTop (mkF m 14 #[.val (.ref a1)] [])) (fun _ k => Jvm.RoadKit.acmp (g := (mkF m 11 #[.val (.ref a1)] [(.ref wM), (.ref a1)])) X3 hx rfl rfl rfl (pc0 := 11) (pc' := 14) (same := true) rfl (hb hby d1_11) rfl (decide_eq_true (congrArg Value.ref ha11_4)) (by decide) (by decide) k) ?_
      refine Gl.pre (B := T3.setTop (mkF m 15 #[.val (.ref a1)] [(.int (1 : Int32))])) (fun _ k => XS.iconst X3.here hx rfl (hb hby d1_14) k) ?_
      refine Gl.pre (B := T3.setTop (mkF m 19 #[.val (.ref a1)] [(.int (1 : Int32))])) (fun _ k => XS.goto X3.here hx rfl (pc0 := 15) (pc' := 19) rfl (hb hby d1_15) (by decide) (by decide) k) ?_
      refine Gl.out X3 (v := some (.int (1 : Int32))) (fun h => by rw [hret] at h; cases h) hlk (fun fs hr => retN X3 hx (t := .boolean) hret (by simp) (hb hby d1_19) hr) ?_ (by decide) (by decide)
      show Q_rm1 Z a1 wN wM h0 n0 _ T3.heap _
      rw [e3]
      exact ⟨by simp [bI, ha4_2, ha11_4], N0, rfl⟩
    · refine Gl.pre (B := T3.setTop (mkF m 18 #[.val (.ref a1)] [])) (fun _ k => Jvm.RoadKit.acmp (g := (mkF m 11 #[.val (.ref a1)] [(.ref wM), (.ref a1)])) X3 hx rfl rfl rfl (pc0 := 11) (pc' := 18) (same := false) rfl (hb hby d1_11) rfl (decide_eq_false fun q => ha11_4 (Value.ref.inj q)) (by decide) (by decide) k) ?_
      refine Gl.pre (B := T3.setTop (mkF m 19 #[.val (.ref a1)] [(.int (0 : Int32))])) (fun _ k => XS.iconst X3.here hx rfl (hb hby d1_18) k) ?_
      refine Gl.out X3 (v := some (.int (0 : Int32))) (fun h => by rw [hret] at h; cases h) hlk (fun fs hr => retN X3 hx (t := .boolean) hret (by simp) (hb hby d1_19) hr) ?_ (by decide) (by decide)
      show Q_rm1 Z a1 wN wM h0 n0 _ T3.heap _
      rw [e3]
      exact ⟨by simp [bI, ha4_2, ha11_4], N0, rfl⟩
theorem pd_0 : parseMethodDescriptor "()Z" = some ⟨[], some .boolean⟩ := by decide +kernel
theorem pn_com_example_hanap_hanap_analysis_WordClassIsNounPinLaw : plainName "com/example/hanap/hanap/analysis/WordClassIsNounPinLaw" = true := by first | (simp [plainName, overriddenIn]; done) | decide +kernel
theorem ef_rm0 (m : MethodId) (x0 : Int32) : entryFrame m #[(.int x0)] maxLocals = mkF m 0 #[.val (.int x0), .unset, .unset, .unset] [] := by first | (simp [entryFrame, mkF, argsToLocals, Value.category, maxLocals]; done) | rfl
def Q_rm0 (Z : State) (p1 : Int32) (wN : Addr) (wM : Addr) (wU : Addr) (wO : Addr) (h0 : Heap) (n0 : Nat) (v : Option Value) (h : Heap) (L : List Loc) : Prop := v = some (.int (1 : Int32)) ∧ Fr n0 L
set_option maxRecDepth 65536 in
set_option maxHeartbeats 40000000 in
theorem rm0 (l : Launch) (Z : State) (a0 : Array Value) (hw : ∀ d ∈ tables_1, d.before a0 Z = true) (ws : List Jvm.Cond) (p1 : Int32) (wN : Addr) (wM : Addr) (wU : Addr) (wO : Addr) (h0 : Heap) (n0 : Nat) (Z0 : n0 ≤ h0.size) (S_NOUN : Sta Z h0 "com/example/hanap/hanap/analysis/WordClass" "NOUN" "Lcom/example/hanap/hanap/analysis/WordClass;" (.ref wN)) (S_NAME : Sta Z h0 "com/example/hanap/hanap/analysis/WordClass" "NAME" "Lcom/example/hanap/hanap/analysis/WordClass;" (.ref wM)) (S_NUMBER : Sta Z h0 "com/example/hanap/hanap/analysis/WordClass" "NUMBER" "Lcom/example/hanap/hanap/analysis/WordClass;" (.ref wU)) (S_OTHER : Sta Z h0 "com/example/hanap/hanap/analysis/WordClass" "OTHER" "Lcom/example/hanap/hanap/analysis/WordClass;" (.ref wO)) (E_wN : Exa Z h0 wN "com/example/hanap/hanap/analysis/WordClass") (E_wM : Exa Z h0 wM "com/example/hanap/hanap/analysis/WordClass") (E_wU : Exa Z h0 wU "com/example/hanap/hanap/analysis/WordClass") (E_wO : Exa Z h0 wO "com/example/hanap/hanap/analysis/WordClass") (n1 : wN ≠ wM) (n2 : wN ≠ wU) (n3 : wN ≠ wO) (n4 : wM ≠ wU) (n5 : wM ≠ wO) (n6 : wU ≠ wO) :
    MetFree l x (head1 (Jvm.Cond.code x code maxLocals ret :: ws) room_1) (fun a U => a = #[(.int p1)] ∧ Z.Warmed39 U.vm ∧ U.heap = h0) (fun _ _ _ _ _ => True) (fun _ U o U' => ∃ v L, o = .returned v ∧ Q_rm0 Z p1 wN wM wU wO h0 n0 v U'.heap L ∧ FrameEnd U o U' L room_1.cells room_1.slots) := by
  refine MetFree.of_bodySF (plainFor_of_name pn_com_example_hanap_hanap_analysis_WordClassIsNounPinLaw) hisR ?_
  intro p e s m args below meth c s₁ Bd hml0 hP hK
  obtain ⟨rfl, hZ, hh⟩ := hP
  have hx := Bd.exec
  have hby := Bd.bytes
  have hml : c.maxLocals = 4 := hml0
  have hown : s.vm.findClass "com/example/hanap/hanap/analysis/WordClassIsNounPinLaw" = some m.cls := findClass_of_methodNamed Bd.named
  have hnm := (name_of_methodNamed Bd.named Bd.method).1
  have hret : meth.sig.returnType = (some .boolean) := Bd.returns
  have hlk : meth.locks = false := BodyLoose.notSynchronized Bd
  have X0 : Stand p l e room_1 s m #[(.int p1)] below meth c s₁ [] 0 0 := Stand.of_body Bd
  have e0 : s₁.heap = h0 := by rw [← hh, Bd.state]; rfl
  have N0 := Fr.nil n0
  show Gl p.tables e below s (Q_rm0 Z p1 wN wM wU wO h0 n0) 0 0 _
  refine Gl.pre (B := s₁.setTop (mkF m 0 #[.val (.int p1), .unset, .unset, .unset] [])) (fun _ k => castTop (ef_rm0 m p1) k) ?_
  refine Gl.pre (B := s₁.setTop (mkF m 1 #[.val (.int p1), .unset, .unset, .unset] [(.int p1)])) (fun _ k => XS.iloadN X0.here hx rfl (hb hby at_0) rfl k) ?_
  refine Gl.pre (B := s₁.setTop (mkF m 2 #[.val (.int p1), .unset, .unset, .unset] [(.int (3 : Int32)), (.int p1)])) (fun _ k => XS.iconst X0.here hx rfl (hb hby at_1) k) ?_
  refine Gl.pre (B := s₁.setTop (mkF m 3 #[.val (.int p1), .unset, .unset, .unset] [(.int (p1 &&& (3 : Int32)))])) (fun _ k => XS.iand X0.here hx rfl (hb hby at_2) rfl k) ?_
  generalize h_k2 : (p1 &&& (3 : Int32)) = k2
  refine Gl.pre (B := s₁.setTop (mkF m 4 #[.val (.int p1), .val (.int k2), .unset, .unset] [])) (fun _ k => XS.istoreN X0.here hx rfl (hb hby at_3) rfl (l' := #[.val (.int p1), .val (.int k2), .unset, .unset]) rfl k) ?_
  refine Gl.pre (B := s₁.setTop (mkF m 5 #[.val (.int p1), .val (.int k2), .unset, .unset] [(.int k2)])) (fun _ k => XS.iloadN X0.here hx rfl (hb hby at_4) rfl k) ?_
  by_cases hc5_1 : k2 = (0 : Int32)
  · refine Gl.pre (B := s₁.setTop (mkF m 8 #[.val (.int p1), .val (.int k2), .unset, .unset] [])) (fun _ k => XS.ifNo X0.here hx rfl (hb hby at_5) rfl ((if0 _ _).trans (teq hc5_1).2) k) ?_
    obtain ⟨T2, X2, e2, st2⟩ := getS2 X0 hx hZ hown (host := "") (Or.inl (hw _ (List.mem_of_getElem? (i := 0) rfl))) Via.refl e0 S_NOUN (g := (mkF m 8 #[.val (.int p1), .val (.int k2), .unset, .unset] [])) rfl (hb hby at_8)
    refine Gl.pre (B := T2.setTop (mkF m 11 #[.val (.int p1), .val (.int k2), .unset, .unset] [(.ref wN)])) (fun _ k => st2 _ k) ?_
    refine Gl.pre (B := T2.setTop (mkF m 12 #[.val (.int p1), .val (.int k2), .val (.ref wN), .unset] [])) (fun _ k => XS.astoreN X2.here hx rfl (hb hby at_11) rfl rfl (l' := #[.val (.int p1), .val (.int k2), .val (.ref wN), .unset]) rfl k) ?_
    refine Gl.pre (B := T2.setTop (mkF m 43 #[.val (.int p1), .val (.int k2), .val (.ref wN), .unset] [])) (fun _ k => XS.goto X2.here hx rfl (pc0 := 12) (pc' := 43) rfl (hb hby at_12) (by decide) (by decide) k) ?_
    refine Gl.pre (B := T2.setTop (mkF m 44 #[.val (.int p1), .val (.int k2), .val (.ref wN), .unset] [(.int k2)])) (fun _ k => XS.iloadN X2.here hx rfl (hb hby at_43) rfl k) ?_
    refine Gl.pre (B := T2.setTop (mkF m 52 #[.val (.int p1), .val (.int k2), .val (.ref wN), .unset] [])) (fun _ k => XS.ifYes X2.here hx rfl (pc0 := 44) (pc' := 52) rfl (hb hby at_44) rfl ((if0 _ _).trans (teq (hc5_1 : k2 = (0 : Int32))).1) (by decide) (by decide) k) ?_
    refine Gl.pre (B := T2.setTop (mkF m 53 #[.val (.int p1), .val (.int k2), .val (.ref wN), .unset] [(.int (1 : Int32))])) (fun _ k => XS.iconst X2.here hx rfl (hb hby at_52) k) ?_
    refine Gl.pre (B := T2.setTop (mkF m 57 #[.val (.int p1), .val (.int k2), .val (.ref wN), .unset] [(.int (1 : Int32))])) (fun _ k => XS.goto X2.here hx rfl (pc0 := 53) (pc' := 57) rfl (hb hby at_53) (by decide) (by decide) k) ?_
    refine Gl.pre (B := T2.setTop (mkF m 58 #[.val (.int p1), .val (.int k2), .val (.ref wN), .val (.int (1 : Int32))] [])) (fun _ k => XS.istoreN X2.here hx rfl (hb hby at_57) rfl (l' := #[.val (.int p1), .val (.int k2), .val (.ref wN), .val (.int (1 : Int32))]) rfl k) ?_
    refine Gl.pre (B := T2.setTop (mkF m 59 #[.val (.int p1), .val (.int k2), .val (.ref wN), .val (.int (1 : Int32))] [(.ref wN)])) (fun _ k => XS.aloadN X2.here hx rfl (hb hby at_58) rfl rfl k) ?_
    obtain ⟨cq3, kq3, q3a, q3b, q3c⟩ := isOf hZ e2 E_wN
    obtain ⟨v3, _, ⟨T3, L3, k3, n3⟩, -, X3, ⟨Lc3, hQ3, l3, y3, z3⟩, st3⟩ := X2.virtualBack hx (y := (⟨"com/example/hanap/hanap/analysis/WordClass", "isNoun", "()Z"⟩ : MethodName)) (z := (⟨"com/example/hanap/hanap/analysis/WordClass", "isNoun", "()Z"⟩ : MethodName)) hown (mvT hZ (hw _ (List.mem_of_getElem? (i := 3) rfl))) (mvT hZ (hw _ (List.mem_of_getElem? (i := 4) rfl))) (notFace_of_selects (args := #[]) (mvT hZ (hw _ (List.mem_of_getElem? (i := 6) rfl)))) (mvT hZ (hw _ (List.mem_of_getElem? (i := 6) rfl))) (mvT hZ (hw _ (List.mem_of_getElem? (i := 5) rfl))) (by decide) (backOf (W := 0) (rm1 l Z a0 hw [] wN wN wM h0 n0 Z0 S_NOUN S_NAME) hZ (hw _ (List.mem_of_getElem? (i := 7) rfl)) (hw _ (List.mem_of_getElem? (i := 1) rfl)) (by decide) (by decide)) q3a q3c (g := (mkF m 59 #[.val (.int p1), .val (.int k2), .val (.ref wN), .val (.int (1 : Int32))] [(.ref wN)])) rfl (by rw [hml]; rfl) (Steps.refl _) (argsL := []) (rest := []) (lenOf pd_0 rfl) rfl (by show 2 * 0 + _ ≤ _; exact Nat.le_of_eq rfl) (hb hby at_59) (fun _ _ => ⟨rfl, e2, (by decide : 0 + 0 ≤ _), (by decide : 0 + 0 ≤ _)⟩)
    dsimp only [Pt.U, Pt.locs, Pt.cells, Pt.slots] at X3 l3 y3 z3 st3 hQ3
    subst l3 y3 z3
    obtain ⟨rfl, N3q, e3⟩ := hQ3
    have N3 := Fr.app N0 N3q
    refine Gl.pre (B := T3.setTop (mkF m 62 #[.val (.int p1), .val (.int k2), .val (.ref wN), .val (.int (1 : Int32))] [(.int (bI (decide (wN = wN ∨ wN = wM))))])) (fun _ k => st3.trans k) ?_
    refine Gl.pre (B := T3.setTop (mkF m 63 #[.val (.int p1), .val (.int k2), .val (.ref wN), .val (.int (1 : Int32))] [(.int (1 : Int32)), (.int (bI (decide (wN = wN ∨ wN = wM))))])) (fun _ k => XS.iloadN X3.here hx rfl (hb hby at_62) rfl k) ?_
    refine Gl.pre (B := T3.setTop (mkF m 66 #[.val (.int p1), .val (.int k2), .val (.ref wN), .val (.int (1 : Int32))] [])) (fun _ k => XS.icmpNo X3.here hx rfl (hb hby at_63) rfl (teq (by simp [bI, hc5_1, n1, n2, n3, n4, n5, n6, Ne.symm n1, Ne.symm n2, Ne.symm n3, Ne.symm n4, Ne.symm n5, Ne.symm n6] : (bI (decide (wN = wN ∨ wN = wM))) = (1 : Int32))).2 k) ?_
    refine Gl.pre (B := T3.setTop (mkF m 67 #[.val (.int p1), .val (.int k2), .val (.ref wN), .val (.int (1 : Int32))] [(.int (1 : Int32))])) (fun _ k => XS.iconst X3.here hx rfl (hb hby at_66) k) ?_
    refine Gl.pre (B := T3.setTop (mkF m 71 #[.val (.int p1), .val (.int k2), .val (.ref wN), .val (.int (1 : Int32))] [(.int (1 : Int32))])) (fun _ k => XS.goto X3.here hx rfl (pc0 := 67) (pc' := 71) rfl (hb hby at_67) (by decide) (by decide) k) ?_
    refine Gl.out X3 (v := some (.int (1 : Int32))) (fun h => by rw [hret] at h; cases h) hlk (fun fs hr => retN X3 hx (t := .boolean) hret (by simp) (hb hby at_71) hr) ?_ (by decide) (by decide)
    show Q_rm0 Z p1 wN wM wU wO h0 n0 _ T3.heap _
    rw [e3]
    exact ⟨rfl, N3⟩
  · refine Gl.pre (B := s₁.setTop (mkF m 15 #[.val (.int p1), .val (.int k2), .unset, .unset] [])) (fun _ k => XS.ifYes X0.here hx rfl (pc0 := 5) (pc' := 15) rfl (hb hby at_5) rfl ((if0 _ _).trans (feq hc5_1).2) (by decide) (by decide) k) ?_
    refine Gl.pre (B := s₁.setTop (mkF m 16 #[.val (.int p1), .val (.int k2), .unset, .unset] [(.int k2)])) (fun _ k => XS.iloadN X0.here hx rfl (hb hby at_15) rfl k) ?_
    refine Gl.pre (B := s₁.setTop (mkF m 17 #[.val (.int p1), .val (.int k2), .unset, .unset] [(.int (1 : Int32)), (.int k2)])) (fun _ k => XS.iconst X0.here hx rfl (hb hby at_16) k) ?_
    by_cases hc17_4 : k2 = (1 : Int32)
    · refine Gl.pre (B := s₁.setTop (mkF m 20 #[.val (.int p1), .val (.int k2), .unset, .unset] [])) (fun _ k => XS.icmpNo X0.here hx rfl (hb hby at_17) rfl (teq hc17_4).2 k) ?_
      obtain ⟨T5, X5, e5, st5⟩ := getS2 X0 hx hZ hown (host := "") (Or.inl (hw _ (List.mem_of_getElem? (i := 15) rfl))) Via.refl e0 S_NAME (g := (mkF m 20 #[.val (.int p1), .val (.int k2), .unset, .unset] [])) rfl (hb hby at_20)
      refine Gl.pre (B := T5.setTop (mkF m 23 #[.val (.int p1), .val (.int k2), .unset, .unset] [(.ref wM)])) (fun _ k => st5 _ k) ?_
      refine Gl.pre (B := T5.setTop (mkF m 24 #[.val (.int p1), .val (.int k2), .val (.ref wM), .unset] [])) (fun _ k => XS.astoreN X5.here hx rfl (hb hby at_23) rfl rfl (l' := #[.val (.int p1), .val (.int k2), .val (.ref wM), .unset]) rfl k) ?_
      refine Gl.pre (B := T5.setTop (mkF m 43 #[.val (.int p1), .val (.int k2), .val (.ref wM), .unset] [])) (fun _ k => XS.goto X5.here hx rfl (pc0 := 24) (pc' := 43) rfl (hb hby at_24) (by decide) (by decide) k) ?_
      refine Gl.pre (B := T5.setTop (mkF m 44 #[.val (.int p1), .val (.int k2), .val (.ref wM), .unset] [(.int k2)])) (fun _ k => XS.iloadN X5.here hx rfl (hb hby at_43) rfl k) ?_
      refine Gl.pre (B := T5.setTop (mkF m 47 #[.val (.int p1), .val (.int k2), .val (.ref wM), .unset] [])) (fun _ k => XS.ifNo X5.here hx rfl (hb hby at_44) rfl ((if0 _ _).trans (feq (hc5_1 : ¬ (k2 = (0 : Int32)))).1) k) ?_
      refine Gl.pre (B := T5.setTop (mkF m 48 #[.val (.int p1), .val (.int k2), .val (.ref wM), .unset] [(.int k2)])) (fun _ k => XS.iloadN X5.here hx rfl (hb hby at_47) rfl k) ?_
      refine Gl.pre (B := T5.setTop (mkF m 49 #[.val (.int p1), .val (.int k2), .val (.ref wM), .unset] [(.int (1 : Int32)), (.int k2)])) (fun _ k => XS.iconst X5.here hx rfl (hb hby at_48) k) ?_
      refine Gl.pre (B := T5.setTop (mkF m 52 #[.val (.int p1), .val (.int k2), .val (.ref wM), .unset] [])) (fun _ k => XS.icmpNo X5.here hx rfl (hb hby at_49) rfl (teq (hc17_4 : k2 = (1 : Int32))).2 k) ?_
      refine Gl.pre (B := T5.setTop (mkF m 53 #[.val (.int p1), .val (.int k2), .val (.ref wM), .unset] [(.int (1 : Int32))])) (fun _ k => XS.iconst X5.here hx rfl (hb hby at_52) k) ?_
      refine Gl.pre (B := T5.setTop (mkF m 57 #[.val (.int p1), .val (.int k2), .val (.ref wM), .unset] [(.int (1 : Int32))])) (fun _ k => XS.goto X5.here hx rfl (pc0 := 53) (pc' := 57) rfl (hb hby at_53) (by decide) (by decide) k) ?_
      refine Gl.pre (B := T5.setTop (mkF m 58 #[.val (.int p1), .val (.int k2), .val (.ref wM), .val (.int (1 : Int32))] [])) (fun _ k => XS.istoreN X5.here hx rfl (hb hby at_57) rfl (l' := #[.val (.int p1), .val (.int k2), .val (.ref wM), .val (.int (1 : Int32))]) rfl k) ?_
      refine Gl.pre (B := T5.setTop (mkF m 59 #[.val (.int p1), .val (.int k2), .val (.ref wM), .val (.int (1 : Int32))] [(.ref wM)])) (fun _ k => XS.aloadN X5.here hx rfl (hb hby at_58) rfl rfl k) ?_
      obtain ⟨cq6, kq6, q6a, q6b, q6c⟩ := isOf hZ e5 E_wM
      obtain ⟨v6, _, ⟨T6, L6, k6, n6⟩, -, X6, ⟨Lc6, hQ6, l6, y6, z6⟩, st6⟩ := X5.virtualBack hx (y := (⟨"com/example/hanap/hanap/analysis/WordClass", "isNoun", "()Z"⟩ : MethodName)) (z := (⟨"com/example/hanap/hanap/analysis/WordClass", "isNoun", "()Z"⟩ : MethodName)) hown (mvT hZ (hw _ (List.mem_of_getElem? (i := 3) rfl))) (mvT hZ (hw _ (List.mem_of_getElem? (i := 4) rfl))) (notFace_of_selects (args := #[]) (mvT hZ (hw _ (List.mem_of_getElem? (i := 6) rfl)))) (mvT hZ (hw _ (List.mem_of_getElem? (i := 6) rfl))) (mvT hZ (hw _ (List.mem_of_getElem? (i := 5) rfl))) (by decide) (backOf (W := 0) (rm1 l Z a0 hw [] wM wN wM h0 n0 Z0 S_NOUN S_NAME) hZ (hw _ (List.mem_of_getElem? (i := 7) rfl)) (hw _ (List.mem_of_getElem? (i := 1) rfl)) (by decide) (by decide)) q6a q6c (g := (mkF m 59 #[.val (.int p1), .val (.int k2), .val (.ref wM), .val (.int (1 : Int32))] [(.ref wM)])) rfl (by rw [hml]; rfl) (Steps.refl _) (argsL := []) (rest := []) (lenOf pd_0 rfl) rfl (by show 2 * 0 + _ ≤ _; exact Nat.le_of_eq rfl) (hb hby at_59) (fun _ _ => ⟨rfl, e5, (by decide : 0 + 0 ≤ _), (by decide : 0 + 0 ≤ _)⟩)
      dsimp only [Pt.U, Pt.locs, Pt.cells, Pt.slots] at X6 l6 y6 z6 st6 hQ6
      subst l6 y6 z6
      obtain ⟨rfl, N6q, e6⟩ := hQ6
      have N6 := Fr.app N0 N6q
      refine Gl.pre (B := T6.setTop (mkF m 62 #[.val (.int p1), .val (.int k2), .val (.ref wM), .val (.int (1 : Int32))] [(.int (bI (decide (wM = wN ∨ wM = wM))))])) (fun _ k => st6.trans k) ?_
      refine Gl.pre (B := T6.setTop (mkF m 63 #[.val (.int p1), .val (.int k2), .val (.ref wM), .val (.int (1 : Int32))] [(.int (1 : Int32)), (.int (bI (decide (wM = wN ∨ wM = wM))))])) (fun _ k => XS.iloadN X6.here hx rfl (hb hby at_62) rfl k) ?_
      refine Gl.pre (B := T6.setTop (mkF m 66 #[.val (.int p1), .val (.int k2), .val (.ref wM), .val (.int (1 : Int32))] [])) (fun _ k => XS.icmpNo X6.here hx rfl (hb hby at_63) rfl (teq (by simp [bI, hc5_1, hc17_4, n1, n2, n3, n4, n5, n6, Ne.symm n1, Ne.symm n2, Ne.symm n3, Ne.symm n4, Ne.symm n5, Ne.symm n6] : (bI (decide (wM = wN ∨ wM = wM))) = (1 : Int32))).2 k) ?_
      refine Gl.pre (B := T6.setTop (mkF m 67 #[.val (.int p1), .val (.int k2), .val (.ref wM), .val (.int (1 : Int32))] [(.int (1 : Int32))])) (fun _ k => XS.iconst X6.here hx rfl (hb hby at_66) k) ?_
      refine Gl.pre (B := T6.setTop (mkF m 71 #[.val (.int p1), .val (.int k2), .val (.ref wM), .val (.int (1 : Int32))] [(.int (1 : Int32))])) (fun _ k => XS.goto X6.here hx rfl (pc0 := 67) (pc' := 71) rfl (hb hby at_67) (by decide) (by decide) k) ?_
      refine Gl.out X6 (v := some (.int (1 : Int32))) (fun h => by rw [hret] at h; cases h) hlk (fun fs hr => retN X6 hx (t := .boolean) hret (by simp) (hb hby at_71) hr) ?_ (by decide) (by decide)
      show Q_rm0 Z p1 wN wM wU wO h0 n0 _ T6.heap _
      rw [e6]
      exact ⟨rfl, N6⟩
    · refine Gl.pre (B := s₁.setTop (mkF m 27 #[.val (.int p1), .val (.int k2), .unset, .unset] [])) (fun _ k => XS.icmpYes X0.here hx rfl (pc0 := 17) (pc' := 27) rfl (hb hby at_17) rfl (feq hc17_4).2 (by decide) (by decide) k) ?_
      refine Gl.pre (B := s₁.setTop (mkF m 28 #[.val (.int p1), .val (.int k2), .unset, .unset] [(.int k2)])) (fun _ k => XS.iloadN X0.here hx rfl (hb hby at_27) rfl k) ?_
      refine Gl.pre (B := s₁.setTop (mkF m 29 #[.val (.int p1), .val (.int k2), .unset, .unset] [(.int (2 : Int32)), (.int k2)])) (fun _ k => XS.iconst X0.here hx rfl (hb hby at_28) k) ?_
      by_cases hc29_7 : k2 = (2 : Int32)
      · refine Gl.pre (B := s₁.setTop (mkF m 32 #[.val (.int p1), .val (.int k2), .unset, .unset] [])) (fun _ k => XS.icmpNo X0.here hx rfl (hb hby at_29) rfl (teq hc29_7).2 k) ?_
        obtain ⟨T8, X8, e8, st8⟩ := getS2 X0 hx hZ hown (host := "") (Or.inl (hw _ (List.mem_of_getElem? (i := 13) rfl))) Via.refl e0 S_NUMBER (g := (mkF m 32 #[.val (.int p1), .val (.int k2), .unset, .unset] [])) rfl (hb hby at_32)
        refine Gl.pre (B := T8.setTop (mkF m 35 #[.val (.int p1), .val (.int k2), .unset, .unset] [(.ref wU)])) (fun _ k => st8 _ k) ?_
        refine Gl.pre (B := T8.setTop (mkF m 36 #[.val (.int p1), .val (.int k2), .val (.ref wU), .unset] [])) (fun _ k => XS.astoreN X8.here hx rfl (hb hby at_35) rfl rfl (l' := #[.val (.int p1), .val (.int k2), .val (.ref wU), .unset]) rfl k) ?_
        refine Gl.pre (B := T8.setTop (mkF m 43 #[.val (.int p1), .val (.int k2), .val (.ref wU), .unset] [])) (fun _ k => XS.goto X8.here hx rfl (pc0 := 36) (pc' := 43) rfl (hb hby at_36) (by decide) (by decide) k) ?_
        refine Gl.pre (B := T8.setTop (mkF m 44 #[.val (.int p1), .val (.int k2), .val (.ref wU), .unset] [(.int k2)])) (fun _ k => XS.iloadN X8.here hx rfl (hb hby at_43) rfl k) ?_
        refine Gl.pre (B := T8.setTop (mkF m 47 #[.val (.int p1), .val (.int k2), .val (.ref wU), .unset] [])) (fun _ k => XS.ifNo X8.here hx rfl (hb hby at_44) rfl ((if0 _ _).trans (feq (hc5_1 : ¬ (k2 = (0 : Int32)))).1) k) ?_
        refine Gl.pre (B := T8.setTop (mkF m 48 #[.val (.int p1), .val (.int k2), .val (.ref wU), .unset] [(.int k2)])) (fun _ k => XS.iloadN X8.here hx rfl (hb hby at_47) rfl k) ?_
        refine Gl.pre (B := T8.setTop (mkF m 49 #[.val (.int p1), .val (.int k2), .val (.ref wU), .unset] [(.int (1 : Int32)), (.int k2)])) (fun _ k => XS.iconst X8.here hx rfl (hb hby at_48) k) ?_
        refine Gl.pre (B := T8.setTop (mkF m 56 #[.val (.int p1), .val (.int k2), .val (.ref wU), .unset] [])) (fun _ k => XS.icmpYes X8.here hx rfl (pc0 := 49) (pc' := 56) rfl (hb hby at_49) rfl (feq (hc17_4 : ¬ (k2 = (1 : Int32)))).2 (by decide) (by decide) k) ?_
        refine Gl.pre (B := T8.setTop (mkF m 57 #[.val (.int p1), .val (.int k2), .val (.ref wU), .unset] [(.int (0 : Int32))])) (fun _ k => XS.iconst X8.here hx rfl (hb hby at_56) k) ?_
        refine Gl.pre (B := T8.setTop (mkF m 58 #[.val (.int p1), .val (.int k2), .val (.ref wU), .val (.int (0 : Int32))] [])) (fun _ k => XS.istoreN X8.here hx rfl (hb hby at_57) rfl (l' := #[.val (.int p1), .val (.int k2), .val (.ref wU), .val (.int (0 : Int32))]) rfl k) ?_
        refine Gl.pre (B := T8.setTop (mkF m 59 #[.val (.int p1), .val (.int k2), .val (.ref wU), .val (.int (0 : Int32))] [(.ref wU)])) (fun _ k => XS.aloadN X8.here hx rfl (hb hby at_58) rfl rfl k) ?_
        obtain ⟨cq9, kq9, q9a, q9b, q9c⟩ := isOf hZ e8 E_wU
        obtain ⟨v9, _, ⟨T9, L9, k9, n9⟩, -, X9, ⟨Lc9, hQ9, l9, y9, z9⟩, st9⟩ := X8.virtualBack hx (y := (⟨"com/example/hanap/hanap/analysis/WordClass", "isNoun", "()Z"⟩ : MethodName)) (z := (⟨"com/example/hanap/hanap/analysis/WordClass", "isNoun", "()Z"⟩ : MethodName)) hown (mvT hZ (hw _ (List.mem_of_getElem? (i := 3) rfl))) (mvT hZ (hw _ (List.mem_of_getElem? (i := 4) rfl))) (notFace_of_selects (args := #[]) (mvT hZ (hw _ (List.mem_of_getElem? (i := 6) rfl)))) (mvT hZ (hw _ (List.mem_of_getElem? (i := 6) rfl))) (mvT hZ (hw _ (List.mem_of_getElem? (i := 5) rfl))) (by decide) (backOf (W := 0) (rm1 l Z a0 hw [] wU wN wM h0 n0 Z0 S_NOUN S_NAME) hZ (hw _ (List.mem_of_getElem? (i := 7) rfl)) (hw _ (List.mem_of_getElem? (i := 1) rfl)) (by decide) (by decide)) q9a q9c (g := (mkF m 59 #[.val (.int p1), .val (.int k2), .val (.ref wU), .val (.int (0 : Int32))] [(.ref wU)])) rfl (by rw [hml]; rfl) (Steps.refl _) (argsL := []) (rest := []) (lenOf pd_0 rfl) rfl (by show 2 * 0 + _ ≤ _; exact Nat.le_of_eq rfl) (hb hby at_59) (fun _ _ => ⟨rfl, e8, (by decide : 0 + 0 ≤ _), (by decide : 0 + 0 ≤ _)⟩)
        dsimp only [Pt.U, Pt.locs, Pt.cells, Pt.slots] at X9 l9 y9 z9 st9 hQ9
        subst l9 y9 z9
        obtain ⟨rfl, N9q, e9⟩ := hQ9
        have N9 := Fr.app N0 N9q
        refine Gl.pre (B := T9.setTop (mkF m 62 #[.val (.int p1), .val (.int k2), .val (.ref wU), .val (.int (0 : Int32))] [(.int (bI (decide (wU = wN ∨ wU = wM))))])) (fun _ k => st9.trans k) ?_
        refine Gl.pre (B := T9.setTop (mkF m 63 #[.val (.int p1), .val (.int k2), .val (.ref wU), .val (.int (0 : Int32))] [(.int (0 : Int32)), (.int (bI (decide (wU = wN ∨ wU = wM))))])) (fun _ k => XS.iloadN X9.here hx rfl (hb hby at_62) rfl k) ?_
        refine Gl.pre (B := T9.setTop (mkF m 66 #[.val (.int p1), .val (.int k2), .val (.ref wU), .val (.int (0 : Int32))] [])) (fun _ k => XS.icmpNo X9.here hx rfl (hb hby at_63) rfl (teq (by simp [bI, hc5_1, hc17_4, hc29_7, n1, n2, n3, n4, n5, n6, Ne.symm n1, Ne.symm n2, Ne.symm n3, Ne.symm n4, Ne.symm n5, Ne.symm n6] : (bI (decide (wU = wN ∨ wU = wM))) = (0 : Int32))).2 k) ?_
        refine Gl.pre (B := T9.setTop (mkF m 67 #[.val (.int p1), .val (.int k2), .val (.ref wU), .val (.int (0 : Int32))] [(.int (1 : Int32))])) (fun _ k => XS.iconst X9.here hx rfl (hb hby at_66) k) ?_
        refine Gl.pre (B := T9.setTop (mkF m 71 #[.val (.int p1), .val (.int k2), .val (.ref wU), .val (.int (0 : Int32))] [(.int (1 : Int32))])) (fun _ k => XS.goto X9.here hx rfl (pc0 := 67) (pc' := 71) rfl (hb hby at_67) (by decide) (by decide) k) ?_
        refine Gl.out X9 (v := some (.int (1 : Int32))) (fun h => by rw [hret] at h; cases h) hlk (fun fs hr => retN X9 hx (t := .boolean) hret (by simp) (hb hby at_71) hr) ?_ (by decide) (by decide)
        show Q_rm0 Z p1 wN wM wU wO h0 n0 _ T9.heap _
        rw [e9]
        exact ⟨rfl, N9⟩
      · refine Gl.pre (B := s₁.setTop (mkF m 39 #[.val (.int p1), .val (.int k2), .unset, .unset] [])) (fun _ k => XS.icmpYes X0.here hx rfl (pc0 := 29) (pc' := 39) rfl (hb hby at_29) rfl (feq hc29_7).2 (by decide) (by decide) k) ?_
        obtain ⟨T10, X10, e10, st10⟩ := getS2 X0 hx hZ hown (host := "") (Or.inl (hw _ (List.mem_of_getElem? (i := 9) rfl))) Via.refl e0 S_OTHER (g := (mkF m 39 #[.val (.int p1), .val (.int k2), .unset, .unset] [])) rfl (hb hby at_39)
        refine Gl.pre (B := T10.setTop (mkF m 42 #[.val (.int p1), .val (.int k2), .unset, .unset] [(.ref wO)])) (fun _ k => st10 _ k) ?_
        refine Gl.pre (B := T10.setTop (mkF m 43 #[.val (.int p1), .val (.int k2), .val (.ref wO), .unset] [])) (fun _ k => XS.astoreN X10.here hx rfl (hb hby at_42) rfl rfl (l' := #[.val (.int p1), .val (.int k2), .val (.ref wO), .unset]) rfl k) ?_
        refine Gl.pre (B := T10.setTop (mkF m 44 #[.val (.int p1), .val (.int k2), .val (.ref wO), .unset] [(.int k2)])) (fun _ k => XS.iloadN X10.here hx rfl (hb hby at_43) rfl k) ?_
        refine Gl.pre (B := T10.setTop (mkF m 47 #[.val (.int p1), .val (.int k2), .val (.ref wO), .unset] [])) (fun _ k => XS.ifNo X10.here hx rfl (hb hby at_44) rfl ((if0 _ _).trans (feq (hc5_1 : ¬ (k2 = (0 : Int32)))).1) k) ?_
        refine Gl.pre (B := T10.setTop (mkF m 48 #[.val (.int p1), .val (.int k2), .val (.ref wO), .unset] [(.int k2)])) (fun _ k => XS.iloadN X10.here hx rfl (hb hby at_47) rfl k) ?_
        refine Gl.pre (B := T10.setTop (mkF m 49 #[.val (.int p1), .val (.int k2), .val (.ref wO), .unset] [(.int (1 : Int32)), (.int k2)])) (fun _ k => XS.iconst X10.here hx rfl (hb hby at_48) k) ?_
        refine Gl.pre (B := T10.setTop (mkF m 56 #[.val (.int p1), .val (.int k2), .val (.ref wO), .unset] [])) (fun _ k => XS.icmpYes X10.here hx rfl (pc0 := 49) (pc' := 56) rfl (hb hby at_49) rfl (feq (hc17_4 : ¬ (k2 = (1 : Int32)))).2 (by decide) (by decide) k) ?_
        refine Gl.pre (B := T10.setTop (mkF m 57 #[.val (.int p1), .val (.int k2), .val (.ref wO), .unset] [(.int (0 : Int32))])) (fun _ k => XS.iconst X10.here hx rfl (hb hby at_56) k) ?_
        refine Gl.pre (B := T10.setTop (mkF m 58 #[.val (.int p1), .val (.int k2), .val (.ref wO), .val (.int (0 : Int32))] [])) (fun _ k => XS.istoreN X10.here hx rfl (hb hby at_57) rfl (l' := #[.val (.int p1), .val (.int k2), .val (.ref wO), .val (.int (0 : Int32))]) rfl k) ?_
        refine Gl.pre (B := T10.setTop (mkF m 59 #[.val (.int p1), .val (.int k2), .val (.ref wO), .val (.int (0 : Int32))] [(.ref wO)])) (fun _ k => XS.aloadN X10.here hx rfl (hb hby at_58) rfl rfl k) ?_
        obtain ⟨cq11, kq11, q11a, q11b, q11c⟩ := isOf hZ e10 E_wO
        obtain ⟨v11, _, ⟨T11, L11, k11, n11⟩, -, X11, ⟨Lc11, hQ11, l11, y11, z11⟩, st11⟩ := X10.virtualBack hx (y := (⟨"com/example/hanap/hanap/analysis/WordClass", "isNoun", "()Z"⟩ : MethodName)) (z := (⟨"com/example/hanap/hanap/analysis/WordClass", "isNoun", "()Z"⟩ : MethodName)) hown (mvT hZ (hw _ (List.mem_of_getElem? (i := 3) rfl))) (mvT hZ (hw _ (List.mem_of_getElem? (i := 4) rfl))) (notFace_of_selects (args := #[]) (mvT hZ (hw _ (List.mem_of_getElem? (i := 6) rfl)))) (mvT hZ (hw _ (List.mem_of_getElem? (i := 6) rfl))) (mvT hZ (hw _ (List.mem_of_getElem? (i := 5) rfl))) (by decide) (backOf (W := 0) (rm1 l Z a0 hw [] wO wN wM h0 n0 Z0 S_NOUN S_NAME) hZ (hw _ (List.mem_of_getElem? (i := 7) rfl)) (hw _ (List.mem_of_getElem? (i := 1) rfl)) (by decide) (by decide)) q11a q11c (g := (mkF m 59 #[.val (.int p1), .val (.int k2), .val (.ref wO), .val (.int (0 : Int32))] [(.ref wO)])) rfl (by rw [hml]; rfl) (Steps.refl _) (argsL := []) (rest := []) (lenOf pd_0 rfl) rfl (by show 2 * 0 + _ ≤ _; exact Nat.le_of_eq rfl) (hb hby at_59) (fun _ _ => ⟨rfl, e10, (by decide : 0 + 0 ≤ _), (by decide : 0 + 0 ≤ _)⟩)
        dsimp only [Pt.U, Pt.locs, Pt.cells, Pt.slots] at X11 l11 y11 z11 st11 hQ11
        subst l11 y11 z11
        obtain ⟨rfl, N11q, e11⟩ := hQ11
        have N11 := Fr.app N0 N11q
        refine Gl.pre (B := T11.setTop (mkF m 62 #[.val (.int p1), .val (.int k2), .val (.ref wO), .val (.int (0 : Int32))] [(.int (bI (decide (wO = wN ∨ wO = wM))))])) (fun _ k => st11.trans k) ?_
        refine Gl.pre (B := T11.setTop (mkF m 63 #[.val (.int p1), .val (.int k2), .val (.ref wO), .val (.int (0 : Int32))] [(.int (0 : Int32)), (.int (bI (decide (wO = wN ∨ wO = wM))))])) (fun _ k => XS.iloadN X11.here hx rfl (hb hby at_62) rfl k) ?_
        refine Gl.pre (B := T11.setTop (mkF m 66 #[.val (.int p1), .val (.int k2), .val (.ref wO), .val (.int (0 : Int32))] [])) (fun _ k => XS.icmpNo X11.here hx rfl (hb hby at_63) rfl (teq (by simp [bI, hc5_1, hc17_4, hc29_7, n1, n2, n3, n4, n5, n6, Ne.symm n1, Ne.symm n2, Ne.symm n3, Ne.symm n4, Ne.symm n5, Ne.symm n6] : (bI (decide (wO = wN ∨ wO = wM))) = (0 : Int32))).2 k) ?_
        refine Gl.pre (B := T11.setTop (mkF m 67 #[.val (.int p1), .val (.int k2), .val (.ref wO), .val (.int (0 : Int32))] [(.int (1 : Int32))])) (fun _ k => XS.iconst X11.here hx rfl (hb hby at_66) k) ?_
        refine Gl.pre (B := T11.setTop (mkF m 71 #[.val (.int p1), .val (.int k2), .val (.ref wO), .val (.int (0 : Int32))] [(.int (1 : Int32))])) (fun _ k => XS.goto X11.here hx rfl (pc0 := 67) (pc' := 71) rfl (hb hby at_67) (by decide) (by decide) k) ?_
        refine Gl.out X11 (v := some (.int (1 : Int32))) (fun h => by rw [hret] at h; cases h) hlk (fun fs hr => retN X11 hx (t := .boolean) hret (by simp) (hb hby at_71) hr) ?_ (by decide) (by decide)
        show Q_rm0 Z p1 wN wM wU wO h0 n0 _ T11.heap _
        rw [e11]
        exact ⟨rfl, N11⟩
theorem enumOrd {args : Array Value} {s : State} {t : Term} {a : Addr} {k : Int32} (ev : t.eval args s none [] s = some (.ref a)) (h : (Jvm.Cond.eq (.field t "java/lang/Enum" "ordinal" "I") (.int k)).value args s none s [] = some true) : s.fieldOf? a "java/lang/Enum" "ordinal" "I" = some (.int k) := by
  rcases hf : s.fieldOf? a "java/lang/Enum" "ordinal" "I" with _ | v
  · simp [Cond.value, Term.eval, ev, hf] at h
  · cases v <;> simp_all [Cond.value, Term.eval]
set_option maxRecDepth 65536 in
set_option maxHeartbeats 40000000 in
theorem comes_1 {Post : Tables → Env → Array Value → State → Outcome → State → Prop} (hpost : ∀ tb e args s v u, (limb_1_1.after args s (.returned v) u = true ∧ limb_1_2.after args s (.returned v) u = true ∧ True) → FrameEnd s (.returned v) u (Jvm.fieldLocs frame_1_writes args s ++ Jvm.arrayLocs frame_1_arrays args s ++ Jvm.staticLocs frame_1_statics s) 0 0 → Post tb e args s (.returned v) u) :
    ArmFor flags0 classFile x code maxLocals ret World_1 tables_1 room_1 Calls_1 rest_1 Pre_1 Post := by
  intro l hfl _ _ p e ha hc hk s m args below hf hA hF happ hP
  obtain ⟨hcalls, hrest, hpre⟩ := hP
  obtain ⟨-, -, -, hnamed, -, -, -, hat⟩ := (Spec.applies_iff hf).mp happ
  obtain ⟨hg, hn⟩ := and_e (Cond.before_iff.mp (show (Jvm.Cond.and given_1 narrow_1).before args s = true from hpre))
  obtain ⟨h1, hr1⟩ := and_e hg
  have hi0 := hr1
  obtain ⟨w0, rfl⟩ : ∃ w0 : Value, args = #[w0] := by
    have hs : args.size = 1 := by simpa [Cond.value, given_1] using h1
    obtain ⟨L⟩ := args
    match L, hs with
    | [w0], _ => exact ⟨w0, rfl⟩
  have hw := fun d (hd : d ∈ tables_1) => atoms_spec (ws := Jvm.Cond.code x code maxLocals ret :: tables_1) hat d (List.mem_cons_of_mem _ hd)
  have hfit : Fit s := fun {y c} hc i hi => by
    obtain ⟨ha, rfl⟩ := Array.getElem?_eq_some_iff.mp hc
    have q := List.all_eq_true.mp ((Array.all_eq_true_iff_forall_mem.mp hF) _ (Array.getElem_mem ha)) i (List.mem_range.mpr hi)
    simpa [Array.getElem?_eq_getElem hi] using q
  obtain ⟨i0, ei0⟩ := is_v hi0
  obtain rfl : w0 = (.int i0) := Option.some.inj ei0
  obtain ⟨x1, y1⟩ := and_e hn
  obtain ⟨x2, y2⟩ := and_e y1
  obtain ⟨x3, y3⟩ := and_e y2
  obtain ⟨x4, y4⟩ := and_e y3
  obtain ⟨x5, y5⟩ := and_e y4
  obtain ⟨x6, y6⟩ := and_e y5
  obtain ⟨x7, x8⟩ := and_e y6
  obtain ⟨wN, vwN⟩ := exa_v x1
  have EwN := Exa.start vwN x1
  have SwN := Sta.start vwN (Or.inr ⟨(hw _ (List.mem_of_getElem? (i := 1) rfl)), (hw _ (List.mem_of_getElem? (i := 2) rfl))⟩)
  have owN := enumOrd vwN x4
  obtain ⟨wO, vwO⟩ := exa_v x2
  have EwO := Exa.start vwO x2
  have SwO := Sta.start vwO (Or.inr ⟨(hw _ (List.mem_of_getElem? (i := 1) rfl)), (hw _ (List.mem_of_getElem? (i := 10) rfl))⟩)
  have owO := enumOrd vwO x3
  obtain ⟨wM, vwM⟩ := exa_v x5
  have EwM := Exa.start vwM x5
  have SwM := Sta.start vwM (Or.inr ⟨(hw _ (List.mem_of_getElem? (i := 1) rfl)), (hw _ (List.mem_of_getElem? (i := 12) rfl))⟩)
  have owM := enumOrd vwM x6
  obtain ⟨wU, vwU⟩ := exa_v x7
  have EwU := Exa.start vwU x7
  have SwU := Sta.start vwU (Or.inr ⟨(hw _ (List.mem_of_getElem? (i := 1) rfl)), (hw _ (List.mem_of_getElem? (i := 14) rfl))⟩)
  have owU := enumOrd vwU x8
  have n1 : wN ≠ wM := fun q => by subst q; rw [owN] at owM; simp at owM
  have n2 : wN ≠ wU := fun q => by subst q; rw [owN] at owU; simp at owU
  have n3 : wN ≠ wO := fun q => by subst q; rw [owN] at owO; simp at owO
  have n4 : wM ≠ wU := fun q => by subst q; rw [owM] at owU; simp at owU
  have n5 : wM ≠ wO := fun q => by subst q; rw [owM] at owO; simp at owO
  have n6 : wU ≠ wO := fun q => by subst q; rw [owU] at owO; simp at owO
  obtain ⟨n, o, h1, h2, h3, _, L, rfl, ⟨rfl, N⟩, hq⟩ := rm0 l s _ hw tables_1 i0 wN wM wU wO s.heap s.heap.size (Nat.le_refl _) SwN SwM SwU SwO EwN EwM EwU EwO n1 n2 n3 n4 n5 n6 p e ha hc hk s m _ below hf ((Spec.applies_iff_loose hf).mp happ).1 ⟨rfl, State.Warmed39.refl s, rfl⟩ trivial
  refine ⟨n, _, h1, h2, h3, hpost _ _ _ _ _ _ ⟨Cond.after_iff.mpr rfl, Cond.after_iff.mpr (eq_i res_at (Term.int_eval (1)) rfl), trivial⟩ ⟨hq.1, hq.2.1, (hq.2.2.sift fun y hy => Or.inr (N y hy)).mono (by decide) (by decide)⟩⟩
theorem main_1_1 : Claimed_1_1 := comes_1 fun _ _ _ _ _ _ h hF => ⟨h.1, hF⟩
theorem main_1_2 : Claimed_1_2 := comes_1 fun _ _ _ _ _ _ h hF => ⟨h.2.1, hF⟩
end Jvm.Pilot.@@N@@
namespace Jvm.Pilot.@@N@@
open Jvm Jvm.ClassFile Sem Op Lib Jvm.Free Jvm.Stand Jvm.Pilot.@@N@@.Jvm.D
/-! MADE BY PROGRAM (witnessworld.py) out of the Statement's table words and the real class files: 12 classes; the members and pool entries that the words name. The judged class is class 1, her method 1. -/
namespace start1
open Jvm.ClassFile
def u (s : String) : CpInfo := .utf8 (stringToUtf16 s)
/-- a pool by its gaps: so many unusable entries, then the entry; so many at the end -/
def gap : Nat → List CpInfo → List CpInfo
  | 0, r => r
  | n + 1, r => .unusable :: gap n r
def poolList (es : List (Nat × CpInfo)) (last : Nat) : List CpInfo := es.foldr (fun e r => gap e.1 (e.2 :: r)) (gap last [])
def pool (es : List (Nat × CpInfo)) (last : Nat) : Array CpInfo := ⟨poolList es last⟩
def fileOf (pool : Array CpInfo) (this : Nat) (attrs : Array Attribute := #[]) (ms : Array MethodInfo := #[]) (fl : Nat := 33) (sup : Nat := 0) (ifs : Array Nat := #[]) (fds : Array FieldInfo := #[]) : ClassFile where
  minorVersion := 0
  majorVersion := 65
  constantPool := pool
  accessFlags := fl
  thisClass := this
  superClass := sup
  interfaces := ifs
  fields := fds
  methods := ms
  attributes := attrs
def plain (name : String) (sup : Option ClassId) : Class where
  name := name
  kind := .ordinary
  loader := none
  accessFlags := 33
  super := sup
  interfaces := #[]
  cf := none
  fields := #[]
  methods := #[]
  instanceTypes := #[]
  staticTypes := #[]
  resolved := #[]
  callSites := []
  init := .initialized
  statics := none
  mirror := none

def pool0 : Array CpInfo := pool [(5, u "<init>"), (0, u "()V"), (1, .class_ 10), (1, u "java/lang/Object")] 113

def k0m0 : Method := { name := "<init>", desc := "()V", sig := { parameters := [], returnType := none }, accessFlags := 1, code := none }
/-- java/lang/Object -/
def k0 : Class := { plain "java/lang/Object" none with
  accessFlags := 33
  interfaces := #[]
  cf := some (fileOf pool0 8 #[] #[{ accessFlags := 1, nameIndex := 5, descriptorIndex := 6, attributes := #[] }] 33 0 #[] #[])
  fields := #[]
  methods := #[k0m0]
  instanceTypes := #[]
  staticTypes := #[]
  resolved := Array.replicate 124 none
  statics := none }

def pool1 : Array CpInfo := pool [(2, .class_ 4), (1, u "java/lang/Object"), (0, u "<init>"), (0, u "()V"), (0, .fieldref 8 9), (0, .class_ 10), (0, .nameAndType 11 12), (0, u "com/example/hanap/hanap/analysis/WordClass"), (0, u "NOUN"), (0, u "Lcom/example/hanap/hanap/analysis/WordClass;"), (0, .fieldref 8 14), (0, .nameAndType 15 12), (0, u "NAME"), (0, .fieldref 8 17), (0, .nameAndType 18 12), (0, u "NUMBER"), (0, .fieldref 8 20), (0, .nameAndType 21 12), (0, u "OTHER"), (0, .methodref 8 23), (0, .nameAndType 24 25), (0, u "isNoun"), (0, u "()Z"), (0, .class_ 27), (0, u "com/example/hanap/hanap/analysis/WordClassIsNounPinLaw"), (2, u "law"), (0, u "(I)Z")] 3

def k1m0 : Method := { name := "<init>", desc := "()V", sig := { parameters := [], returnType := none }, accessFlags := 1, code := none }
def k1c1 : Code := { maxStack := 2, maxLocals := 4, code := code, exceptionTable := #[], attributes := #[] }
def k1m1 : Method := { name := "law", desc := "(I)Z", sig := { parameters := [.int], returnType := some .boolean }, accessFlags := 9, code := some k1c1 }
/-- com/example/hanap/hanap/analysis/WordClassIsNounPinLaw -/
def k1 : Class := { plain "com/example/hanap/hanap/analysis/WordClassIsNounPinLaw" (some 0) with
  accessFlags := 49
  interfaces := #[]
  cf := some (fileOf pool1 26 #[] #[{ accessFlags := 1, nameIndex := 5, descriptorIndex := 6, attributes := #[] }, { accessFlags := 9, nameIndex := 30, descriptorIndex := 31, attributes := #[] }] 49 2 #[] #[])
  fields := #[]
  methods := #[k1m0, k1m1]
  instanceTypes := #[]
  staticTypes := #[]
  resolved := Array.replicate 35 none
  statics := none }

def pool2 : Array CpInfo := pool [(1, .class_ 2), (0, u "java/lang/constant/Constable"), (0, .class_ 4), (0, u "java/lang/Object")] 6

/-- java/lang/constant/Constable -/
def k2 : Class := { plain "java/lang/constant/Constable" (some 0) with
  accessFlags := 1537
  interfaces := #[]
  cf := some (fileOf pool2 1 #[] #[] 1537 3 #[] #[])
  fields := #[]
  methods := #[]
  instanceTypes := #[]
  staticTypes := #[]
  resolved := Array.replicate 11 none
  statics := none }

def pool3 : Array CpInfo := pool [(1, .class_ 2), (0, u "java/lang/Comparable"), (0, .class_ 4), (0, u "java/lang/Object")] 7

/-- java/lang/Comparable -/
def k3 : Class := { plain "java/lang/Comparable" (some 0) with
  accessFlags := 1537
  interfaces := #[]
  cf := some (fileOf pool3 1 #[] #[] 1537 3 #[] #[])
  fields := #[]
  methods := #[]
  instanceTypes := #[]
  staticTypes := #[]
  resolved := Array.replicate 12 none
  statics := none }

def pool4 : Array CpInfo := pool [(1, .class_ 2), (0, u "java/io/Serializable"), (0, .class_ 4), (0, u "java/lang/Object")] 2

/-- java/io/Serializable -/
def k4 : Class := { plain "java/io/Serializable" (some 0) with
  accessFlags := 1537
  interfaces := #[]
  cf := some (fileOf pool4 1 #[] #[] 1537 3 #[] #[])
  fields := #[]
  methods := #[]
  instanceTypes := #[]
  staticTypes := #[]
  resolved := Array.replicate 7 none
  statics := none }

def pool5 : Array CpInfo := pool [(2, .class_ 4), (1, u "java/lang/Enum"), (0, u "name"), (0, u "Ljava/lang/String;"), (2, u "ordinal"), (0, u "I"), (1, .class_ 14), (1, u "java/lang/Object"), (4, u "hash"), (86, .class_ 108), (1, u "java/lang/Enum$EnumDesc"), (2, .class_ 112), (0, u "java/lang/constant/Constable"), (0, .class_ 114), (0, u "java/lang/Comparable"), (0, .class_ 116), (0, u "java/io/Serializable")] 87

/-- java/lang/Enum -/
def k5 : Class := { plain "java/lang/Enum" (some 0) with
  accessFlags := 1057
  interfaces := #[2, 3, 4]
  cf := some (fileOf pool5 2 #[.nestMembers #[106]] #[] 1057 12 #[111, 113, 115] #[{ accessFlags := 18, nameIndex := 5, descriptorIndex := 6, attributes := #[] }, { accessFlags := 18, nameIndex := 9, descriptorIndex := 10, attributes := #[] }, { accessFlags := 2, nameIndex := 19, descriptorIndex := 10, attributes := #[] }])
  fields := #[{ name := "name", type := (.object "java/lang/String"), accessFlags := 18, slot := 0, constantValue := 0 }, { name := "ordinal", type := .int, accessFlags := 18, slot := 1, constantValue := 0 }, { name := "hash", type := .int, accessFlags := 2, slot := 2, constantValue := 0 }]
  methods := #[]
  instanceTypes := #[(.object "java/lang/String"), .int, .int]
  staticTypes := #[]
  resolved := Array.replicate 204 none
  statics := none }

def pool6 : Array CpInfo := pool [(1, .class_ 2), (0, u "com/example/hanap/hanap/analysis/WordClass"), (0, .fieldref 1 4), (0, .nameAndType 5 6), (0, u "NOUN"), (0, u "Lcom/example/hanap/hanap/analysis/WordClass;"), (0, .fieldref 1 8), (0, .nameAndType 9 6), (0, u "NAME"), (2, u "NUMBER"), (2, u "OTHER"), (2, u "$VALUES"), (0, u "[Lcom/example/hanap/hanap/analysis/WordClass;"), (6, .class_ 28), (1, u "java/lang/Enum"), (22, u "isNoun"), (0, u "()Z")] 5

def k6c0 : Code := { maxStack := 2, maxLocals := 1, code := prog_3_method_4_code, exceptionTable := #[], attributes := #[] }
def k6m0 : Method := { name := "isNoun", desc := "()Z", sig := { parameters := [], returnType := some .boolean }, accessFlags := 0, code := some k6c0 }
/-- com/example/hanap/hanap/analysis/WordClass -/
def k6 : Class := { plain "com/example/hanap/hanap/analysis/WordClass" (some 5) with
  accessFlags := 16432
  interfaces := #[]
  cf := some (fileOf pool6 1 #[] #[{ accessFlags := 0, nameIndex := 51, descriptorIndex := 52, attributes := #[] }] 16432 26 #[] #[{ accessFlags := 16409, nameIndex := 5, descriptorIndex := 6, attributes := #[] }, { accessFlags := 16409, nameIndex := 9, descriptorIndex := 6, attributes := #[] }, { accessFlags := 16409, nameIndex := 12, descriptorIndex := 6, attributes := #[] }, { accessFlags := 16409, nameIndex := 15, descriptorIndex := 6, attributes := #[] }, { accessFlags := 4122, nameIndex := 18, descriptorIndex := 19, attributes := #[] }])
  fields := #[{ name := "NOUN", type := (.object "com/example/hanap/hanap/analysis/WordClass"), accessFlags := 16409, slot := 0, constantValue := 0 }, { name := "NAME", type := (.object "com/example/hanap/hanap/analysis/WordClass"), accessFlags := 16409, slot := 1, constantValue := 0 }, { name := "NUMBER", type := (.object "com/example/hanap/hanap/analysis/WordClass"), accessFlags := 16409, slot := 2, constantValue := 0 }, { name := "OTHER", type := (.object "com/example/hanap/hanap/analysis/WordClass"), accessFlags := 16409, slot := 3, constantValue := 0 }, { name := "$VALUES", type := (.array (.object "com/example/hanap/hanap/analysis/WordClass")), accessFlags := 4122, slot := 4, constantValue := 0 }]
  methods := #[k6m0]
  instanceTypes := #[(.object "java/lang/String"), .int, .int]
  staticTypes := #[(.object "com/example/hanap/hanap/analysis/WordClass"), (.object "com/example/hanap/hanap/analysis/WordClass"), (.object "com/example/hanap/hanap/analysis/WordClass"), (.object "com/example/hanap/hanap/analysis/WordClass"), (.array (.object "com/example/hanap/hanap/analysis/WordClass"))]
  resolved := Array.replicate 58 none
  statics := some 0 }

def pool7 : Array CpInfo := pool [(1, u "java/lang/Cloneable"), (0, .class_ 1), (0, u "java/lang/Object"), (0, .class_ 3)] 3

/-- java/lang/Cloneable -/
def k7 : Class := { plain "java/lang/Cloneable" (some 0) with
  accessFlags := 1537
  interfaces := #[]
  cf := some (fileOf pool7 2 #[] #[] 1537 4 #[] #[])
  fields := #[]
  methods := #[]
  instanceTypes := #[]
  staticTypes := #[]
  resolved := Array.replicate 8 none
  statics := none }

/-- the primitive byte -/
def k8 : Class := { plain "byte" none with kind := .primitive 'B', accessFlags := 0x411 }
/-- [B -/
def k9 : Class := { plain "[B" (some 0) with kind := .array 8 .byte, interfaces := #[7, 4], accessFlags := 1041 }

/-- the primitive int -/
def k10 : Class := { plain "int" none with kind := .primitive 'I', accessFlags := 0x411 }
/-- [I -/
def k11 : Class := { plain "[I" (some 0) with kind := .array 10 .int, interfaces := #[7, 4], accessFlags := 1041 }

def heap : Heap := #[{ cls := 6, slots := #[.ref 1, .ref 2, .ref 3, .ref 4, .null], vm := .statics 6 },
  { cls := 6, slots := #[.null, .int 0, .int 0], vm := .none },
  { cls := 6, slots := #[.null, .int 1, .int 0], vm := .none },
  { cls := 6, slots := #[.null, .int 2, .int 0], vm := .none },
  { cls := 6, slots := #[.null, .int 3, .int 0], vm := .none }]
def classes : Array Class := #[k0, k1, k2, k3, k4, k5, k6, k7, k8, k9, k10, k11]
def interned : List (Array UInt16 × Addr) := []
def slotsUsed : Nat := 17
def theMethod : MethodId := ⟨1, 1⟩
def args0 : Array Value := #[.int 5]
def aboutOver (below : List Frame) : State where
  vm := { classes := classes, interned := interned.toArray }
  heap := heap
  slotsUsed := slotsUsed
  threads := #[{ frames := .invoking theMethod args0 :: below }]
def below0 : List Frame := [.native { method := ⟨0, 0⟩, args := #[] }]
def about1 : State := aboutOver below0
def p0 : Program := .bare "" "" ""
def e0 : Env := launch0.env 0 0 0
theorem w_frames : about1.frames = Frame.invoking theMethod args0 :: below0 := rfl
set_option maxRecDepth 65536 in
theorem w_args : argsFit about1.vm theMethod args0 = true := by decide +kernel
set_option maxRecDepth 65536 in
theorem w_heap : heapFits about1 = true := by decide +kernel
set_option maxRecDepth 65536 in
theorem w_runnable : about1.curStatus? = some .runnable := by decide +kernel
set_option maxRecDepth 65536 in
theorem w_alone : about1.alone = true := by decide +kernel
set_option maxRecDepth 65536 in
theorem w_named : about1.methodNamed? x = some theMethod := by decide +kernel
set_option maxRecDepth 65536 in
theorem w_hears : about1.hears theMethod below0 = true := by decide +kernel
set_option maxRecDepth 65536 in
theorem w_ripe : about1.ripe theMethod args0 below0 = true := by decide +kernel
theorem w_running : about1.status = .running := rfl
set_option maxRecDepth 65536 in
theorem w_room : about1.hasRoom e0.platform room_1 = true :=
  launch0.hasRoom_least _ room_1 (by decide +kernel) (by decide +kernel) (by decide +kernel) (by decide +kernel) (by decide +kernel) (by decide +kernel)
theorem allAtoms_all (ts : List Jvm.Cond) (a : Array Jvm.Value) (st : Jvm.State) : (allAtoms ts).before a st = ts.all (fun c => c.before a st) := by
  induction ts with
  | nil => rfl
  | cons c t ih =>
    show (Jvm.Cond.and c (allAtoms t)).before a st = _
    rw [Jvm.Cond.before_and, ih, List.all_cons]
def words1 : List Jvm.Cond := Jvm.Cond.code x code maxLocals ret :: tables_1
/-- a 'code' word, met by the world's own term for the bytes: nothing is compared byte by byte -/
theorem code_word {y : MethodName} {bytes : ByteArray} {mx : Nat} {rt : Option FieldType} {a : Array Value} {s : State} {m : MethodId} {meth : Method} {c : Code} (h1 : s.methodNamed? y = some m) (h2 : s.vm.method? m = some meth) (h3 : meth.code = some c) (h4 : c.code = bytes)
    (h5 : (c.maxLocals == mx && c.exceptionTable.isEmpty && decide (c.maxStack ≤ mostOperands) && decide (meth.sig.returnType = rt) && !meth.locks && decide (parseMethodDescriptor y.desc = some meth.sig)) = true) : (Jvm.Cond.code y bytes mx rt).before a s = true := by
  simp only [Bool.and_eq_true, beq_iff_eq, Bool.not_eq_true', decide_eq_true_eq] at h5
  obtain ⟨⟨⟨⟨⟨g1, g2⟩, g3⟩, g4⟩, g5⟩, g6⟩ := h5
  simp [Cond.before, Cond.holds, Cond.value, h1, h2, h3, h4, g1, g2, g3, g4, g5, g6]
def isCode : Jvm.Cond → Bool
  | .code _ _ _ _ => true
  | _ => false
theorem all_split {L : List Jvm.Cond} {P : Jvm.Cond → Bool} (h1 : L.all (fun c => isCode c || P c) = true) (h2 : ∀ c ∈ L.filter isCode, P c = true) : L.all P = true := by
  refine List.all_eq_true.mpr fun c hc => ?_
  have h := List.all_eq_true.mp h1 c hc
  rcases Bool.eq_false_or_eq_true (isCode c) with hi | hi
  · exact h2 c (List.mem_filter.mpr ⟨hc, hi⟩)
  · simpa [hi] using h
set_option maxRecDepth 65536 in
theorem w_c0 : (Jvm.Cond.code x code maxLocals ret).before args0 about1 = true := code_word (m := ⟨1, 1⟩) (meth := k1m1) (c := k1c1) (by decide +kernel) rfl rfl rfl (by decide +kernel)
set_option maxRecDepth 65536 in
theorem w_c1 : (Jvm.Cond.code ({ cls := "com/example/hanap/hanap/analysis/WordClass", name := "isNoun", desc := "()Z" } : Jvm.MethodName) prog_3_method_4_code (1 : Nat) (Option.some Jvm.ClassFile.FieldType.boolean)).before args0 about1 = true := code_word (m := ⟨6, 0⟩) (meth := k6m0) (c := k6c0) (by decide +kernel) rfl rfl rfl (by decide +kernel)
def codes1 : List Jvm.Cond := [Jvm.Cond.code x code maxLocals ret, Jvm.Cond.code ({ cls := "com/example/hanap/hanap/analysis/WordClass", name := "isNoun", desc := "()Z" } : Jvm.MethodName) prog_3_method_4_code (1 : Nat) (Option.some Jvm.ClassFile.FieldType.boolean)]
set_option maxRecDepth 65536 in
theorem codes_eq : words1.filter isCode = codes1 := rfl
theorem w_codes : ∀ c ∈ words1.filter isCode, c.before args0 about1 = true := by
  rw [codes_eq]
  intro c hc
  simp only [codes1, List.mem_cons, List.not_mem_nil, or_false] at hc
  rcases hc with rfl | rfl
  · exact w_c0
  · exact w_c1
set_option maxRecDepth 65536 in
theorem w_t1 : words1.all (fun c => isCode c || c.before args0 about1) = true := by decide +kernel
theorem w_tables : (allAtoms (Jvm.Cond.code x code maxLocals ret :: tables_1)).before args0 about1 = true := by
  rw [allAtoms_all]
  show words1.all (fun c => c.before args0 about1) = true
  refine all_split ?_ w_codes
  rw [w_t1]
set_option maxRecDepth 65536 in
theorem w_case : (Jvm.Cond.and given_1 narrow_1).before args0 about1 = true := by decide +kernel
theorem w_applies : (headSpec (Jvm.Cond.code x code maxLocals ret :: tables_1) room_1).applies x e0.platform about1 = true :=
  (Spec.applies_iff w_frames).mpr ⟨w_running, w_runnable, w_alone, w_named, w_hears, w_ripe, w_room, w_tables⟩
theorem atStart : AtStart classFile x code maxLocals ret World_1 tables_1 room_1 Calls_1 rest_1 Pre_1 launch0 p0 e0 about1 theMethod args0 below0 :=
  ⟨lists_1, trivial, launch0.admits_env _ _ _, launch0.least_env, fairChoices_fair.cas, fairChoices_fair.clock, w_frames, w_args, w_heap, w_applies, trivial, trivial, w_case⟩
end start1
theorem witness_1 : WitnessClaimed_1 := ⟨start1.p0, start1.e0, start1.about1, start1.theMethod, start1.args0, start1.below0, start1.atStart⟩
end Jvm.Pilot.@@N@@
