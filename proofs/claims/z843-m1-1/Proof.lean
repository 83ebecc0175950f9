import JvmDerived
import JvmDerived.Pilot.@@N@@Statement
import JvmDerived.Pilot.@@N@@Code
set_option linter.unusedVariables false
set_option linter.unusedSimpArgs false
namespace Jvm.Pilot.@@N@@
open Jvm Jvm.ClassFile Sem Op Lib Jvm.Free Jvm.Stand Jvm.LawKit Jvm.RoadKit Bundle Jvm.Pilot.@@N@@.Jvm.D
/-! 0. the walk's goal, and how a step leads to it -/
def OGoal (p : Program) (e : Env) (below : List Frame) (Φ : Outcome → State → Prop) (T : State) (g : JFrame) : Prop :=
  ∃ s₂ o, Steps p.tables e below (T.setTop g) s₂ ∧ s₂.status = .running ∧ Ended s₂ below o ∧ Φ o s₂
theorem own_by {p : Program} {e : Env} {below : List Frame} {Φ : Outcome → State → Prop} {T T' : State} {g g' : JFrame}
    (st : ∀ t, Steps p.tables e below (T'.setTop g') t → Steps p.tables e below (T.setTop g) t) (G : OGoal p e below Φ T' g') : OGoal p e below Φ T g := by
  obtain ⟨s₂, o, h1, h2⟩ := G
  exact ⟨s₂, o, st _ h1, h2⟩
theorem own_enter {p : Program} {e : Env} {below : List Frame} {Φ : Outcome → State → Prop} {T : State} {g g' : JFrame} (q : g = g') (G : OGoal p e below Φ T g') :
    ∃ s₂ o, Steps p.tables e below (T.setTop g) s₂ ∧ s₂.status = .running ∧ Ended s₂ below o ∧ Φ o s₂ := by subst q; exact G
theorem own_kext {h h' : Heap} (E : Ext h h') : Keep h h' [] := (Keep.refl h []).ext E
theorem own_narR {ty : FieldType} {v : Value} (hty : ty.isReference = true) (h : v.isRef = true) : narrow ty v = v := by
  rcases ref_cases h with rfl | ⟨a, rfl⟩ <;> cases ty <;> first | rfl | (cases hty)
theorem own_fitR {ty : FieldType} {v : Value} (hty : ty.isReference = true) (h : v.isRef = true) : fits ty v = true := by
  rcases ref_cases h with rfl | ⟨a, rfl⟩ <;> cases ty <;> first | rfl | (cases hty)
theorem own_narC (x : Int32) : nar .char (x.toUInt32.toUInt16.toUInt32.toInt32) = x.toUInt32.toUInt16.toUInt32.toInt32 := by
  show (x.toUInt32.toUInt16.toUInt32.toInt32).toUInt32.toUInt16.toUInt32.toInt32 = _
  simp only [UInt32.toUInt32_toInt32, UInt16.toUInt16_toUInt32]
theorem own_narB (x : Int32) : nar .byte (x.toInt8.toInt32) = x.toInt8.toInt32 := by
  show (x.toInt8.toInt32).toInt8.toInt32 = _
  simp
theorem own_fldI {Z : State} {args : Array Value} {t : Term} {a : Addr} {C n d : String} {k : Int32} (ev : t.eval args Z none [] Z = some (.ref a)) (h : (Jvm.Cond.eq (.field t C n d) (.int k)).value args Z none Z [] = some true) : Fld Z Z.heap a C n d (.int k) :=
  Fld.start ((fld_at ev).symm.trans (eqv_i (Term.int_eval k) h))
theorem own_fldJ {Z : State} {args : Array Value} {t : Term} {a : Addr} {C n d : String} {k : Int64} (ev : t.eval args Z none [] Z = some (.ref a)) (h : (Jvm.Cond.eq (.field t C n d) (.long k)).value args Z none Z [] = some true) : Fld Z Z.heap a C n d (.long k) :=
  Fld.start ((fld_at ev).symm.trans (eqv_l (F := .long k) rfl h))
def Glob (Z : State) (wA : Addr) (wF : Addr) : Prop := Sta Z Z.heap "com/example/yanta/yanta/policy/Effect" "ALLOW" "Lcom/example/yanta/yanta/policy/Effect;" (.ref wA) ∧ Sta Z Z.heap "com/example/yanta/yanta/policy/Effect" "FORBID" "Lcom/example/yanta/yanta/policy/Effect;" (.ref wF) ∧ Exa Z Z.heap wA "com/example/yanta/yanta/policy/Effect" ∧ Exa Z Z.heap wF "com/example/yanta/yanta/policy/Effect" ∧ Fld Z Z.heap wA "java/lang/Enum" "ordinal" "I" (.int (0 : Int32)) ∧ Fld Z Z.heap wF "java/lang/Enum" "ordinal" "I" (.int (1 : Int32))
theorem own_d1_0 : decode prog_16_method_4_code 0 = .ok (.aload_n 0, 1) := by decide +kernel
theorem own_d1_1 : decode prog_16_method_4_code 1 = .ok (.getstatic 3, 3) := by decide +kernel
theorem own_d1_4 : decode prog_16_method_4_code 4 = .ok (.if_acmp .ne 9, 3) := by decide +kernel
theorem own_d1_7 : decode prog_16_method_4_code 7 = .ok (.getstatic 7, 3) := by decide +kernel
theorem own_d1_10 : decode prog_16_method_4_code 10 = .ok (.goto 6, 3) := by decide +kernel
theorem own_d1_16 : decode prog_16_method_4_code 16 = .ok (.areturn, 1) := by decide +kernel
theorem own_pn_com_example_yanta_yanta_policy_Effect : plainName "com/example/yanta/yanta/policy/Effect" = true := by first | (simp [plainName, overriddenIn]; done) | decide +kernel
theorem own_ef_rmA (m : MethodId) (x0 : Addr) : entryFrame m #[(.ref x0)] 1 = mkF m 0 #[.val (.ref x0)] [] := by first | (simp [entryFrame, mkF, argsToLocals, Value.category]; done) | rfl
def Q_rmA (Z : State) (wA : Addr) (wF : Addr) (h0 : Heap) (n0 : Nat) (v : Option Value) (h : Heap) (L : List Loc) : Prop := v = some (.ref wF) ∧ Fr n0 L ∧ h = h0
set_option maxRecDepth 65536 in
set_option maxHeartbeats 40000000 in
theorem rmA (l : Launch) (Z : State) (a0 : Array Value) (hw : ∀ d ∈ tables_1, d.before a0 Z = true) (ws : List Jvm.Cond) (wA : Addr) (wF : Addr) (GS : Glob Z wA wF)  (h0 : Heap) (n0 : Nat) (Z0 : n0 ≤ h0.size) (O0 : Old Z n0 h0) :
    MetFree l (⟨"com/example/yanta/yanta/policy/Effect", "opposite", "()Lcom/example/yanta/yanta/policy/Effect;"⟩ : MethodName) (head1 (Jvm.Cond.code (⟨"com/example/yanta/yanta/policy/Effect", "opposite", "()Lcom/example/yanta/yanta/policy/Effect;"⟩ : MethodName) prog_16_method_4_code 1 (some (.object "com/example/yanta/yanta/policy/Effect")) :: ws) ({ frames := 0, cells := 0, slots := 0, locals := 0 } : Room)) (fun a U => a = #[(.ref wA)] ∧ Z.Warmed39 U.vm ∧ U.heap = h0) (fun _ _ _ _ _ => True) (fun _ U o U' => ∃ v L, o = .returned v ∧ Q_rmA Z wA wF h0 n0 v U'.heap L ∧ FrameEnd U o U' L ({ frames := 0, cells := 0, slots := 0, locals := 0 } : Room).cells ({ frames := 0, cells := 0, slots := 0, locals := 0 } : Room).slots) := by
  refine MetFree.of_bodySF (plainFor_of_name own_pn_com_example_yanta_yanta_policy_Effect) hisR ?_
  intro p e s m args below meth c s₁ Bd hml0 hP hK
  obtain ⟨rfl, hZ, hh⟩ := hP
  have hx := Bd.exec
  have hby := Bd.bytes
  have hml : c.maxLocals = 1 := hml0
  have hown : s.vm.findClass "com/example/yanta/yanta/policy/Effect" = some m.cls := findClass_of_methodNamed Bd.named
  have hnm := (name_of_methodNamed Bd.named Bd.method).1
  have X0 : Stand p l e ({ frames := 0, cells := 0, slots := 0, locals := 0 } : Room) s m #[(.ref wA)] below meth c s₁ [] 0 0 := Stand.of_body Bd
  have e0 : s₁.heap = h0 := by rw [← hh, Bd.state]; rfl
  have N0 := Fr.nil n0
  have hn0 : Z.heap.size = n0 := O0.1
  have KT0 : Keep h0 h0 [] := Keep.refl _ _
  refine own_enter (Φ := fun o U' => ∃ v L, o = .returned v ∧ Q_rmA Z wA wF h0 n0 v U'.heap L ∧ FrameEnd s o U' L ({ frames := 0, cells := 0, slots := 0, locals := 0 } : Room).cells ({ frames := 0, cells := 0, slots := 0, locals := 0 } : Room).slots) (own_ef_rmA m wA) ?_
  have ne1 : wF ≠ wA := GS.2.2.2.2.2.ne GS.2.2.2.2.1 (by simp)
  refine own_by (T' := s₁) (g' := (mkF m 1 #[.val (.ref wA)] [(.ref wA)])) (fun _ k => XS.aloadN X0.here hx rfl (hb hby own_d1_0) rfl rfl k) ?_
  have f2 := GS.1.ext O0.2
  obtain ⟨T3, X3, e3, st3⟩ := getS2 X0 hx hZ hown (host := "") (Or.inl (hw _ (List.mem_of_getElem? (i := 8) rfl))) Via.refl e0 f2 (g := (mkF m 1 #[.val (.ref wA)] [(.ref wA)])) rfl (hb hby own_d1_1)
  refine own_by (T' := T3) (g' := (mkF m 4 #[.val (.ref wA)] [(.ref wA), (.ref wA)])) st3 ?_
  refine own_by (T' := T3) (g' := (mkF m 7 #[.val (.ref wA)] [])) (fun _ k => Jvm.RoadKit.acmp (g := (mkF m 4 #[.val (.ref wA)] [(.ref wA), (.ref wA)])) X3 hx rfl rfl rfl (pc0 := 4) (pc' := 7) (same := true) rfl (hb hby own_d1_4) rfl (decide_eq_true rfl) (by decide) (by decide) k) ?_
  have f4 := GS.2.1.ext O0.2
  obtain ⟨T5, X5, e5, st5⟩ := getS2 X3 hx hZ hown (host := "") (Or.inl (hw _ (List.mem_of_getElem? (i := 10) rfl))) Via.refl e3 f4 (g := (mkF m 7 #[.val (.ref wA)] [])) rfl (hb hby own_d1_7)
  refine own_by (T' := T5) (g' := (mkF m 10 #[.val (.ref wA)] [(.ref wF)])) st5 ?_
  refine own_by (T' := T5) (g' := (mkF m 16 #[.val (.ref wA)] [(.ref wF)])) (fun _ k => XS.goto X5.here hx rfl (pc0 := 10) (pc' := 16) rfl (hb hby own_d1_10) (by decide) (by decide) k) ?_
  obtain ⟨fs6, hr6, hrun6, hended6, hW6, hsame6⟩ := X5.leave (v := some (.ref wF)) (fun h => by rw [Bd.returns] at h; cases h)
  refine ⟨_, _, retOut X5 hx (t := (.object "com/example/yanta/yanta/policy/Effect")) Bd.returns rfl (Or.inr (Or.inr (Or.inr (Or.inr ⟨rfl, rfl, rfl⟩)))) (hb hby own_d1_16) hr6, hrun6, hended6, _, _, rfl, ?_, ⟨_, rfl⟩, hW6, hsame6.mono (by decide) (by decide)⟩
  show Q_rmA Z wA wF h0 n0 _ T5.heap _
  exact ⟨rfl, N0, e5⟩
theorem own_d1_13 : decode prog_16_method_4_code 13 = .ok (.getstatic 3, 3) := by decide +kernel
theorem own_ef_rmF (m : MethodId) (x0 : Addr) : entryFrame m #[(.ref x0)] 1 = mkF m 0 #[.val (.ref x0)] [] := by first | (simp [entryFrame, mkF, argsToLocals, Value.category]; done) | rfl
def Q_rmF (Z : State) (wA : Addr) (wF : Addr) (h0 : Heap) (n0 : Nat) (v : Option Value) (h : Heap) (L : List Loc) : Prop := v = some (.ref wA) ∧ Fr n0 L ∧ h = h0
set_option maxRecDepth 65536 in
set_option maxHeartbeats 40000000 in
theorem rmF (l : Launch) (Z : State) (a0 : Array Value) (hw : ∀ d ∈ tables_1, d.before a0 Z = true) (ws : List Jvm.Cond) (wA : Addr) (wF : Addr) (GS : Glob Z wA wF)  (h0 : Heap) (n0 : Nat) (Z0 : n0 ≤ h0.size) (O0 : Old Z n0 h0) :
    MetFree l (⟨"com/example/yanta/yanta/policy/Effect", "opposite", "()Lcom/example/yanta/yanta/policy/Effect;"⟩ : MethodName) (head1 (Jvm.Cond.code (⟨"com/example/yanta/yanta/policy/Effect", "opposite", "()Lcom/example/yanta/yanta/policy/Effect;"⟩ : MethodName) prog_16_method_4_code 1 (some (.object "com/example/yanta/yanta/policy/Effect")) :: ws) ({ frames := 0, cells := 0, slots := 0, locals := 0 } : Room)) (fun a U => a = #[(.ref wF)] ∧ Z.Warmed39 U.vm ∧ U.heap = h0) (fun _ _ _ _ _ => True) (fun _ U o U' => ∃ v L, o = .returned v ∧ Q_rmF Z wA wF h0 n0 v U'.heap L ∧ FrameEnd U o U' L ({ frames := 0, cells := 0, slots := 0, locals := 0 } : Room).cells ({ frames := 0, cells := 0, slots := 0, locals := 0 } : Room).slots) := by
  refine MetFree.of_bodySF (plainFor_of_name own_pn_com_example_yanta_yanta_policy_Effect) hisR ?_
  intro p e s m args below meth c s₁ Bd hml0 hP hK
  obtain ⟨rfl, hZ, hh⟩ := hP
  have hx := Bd.exec
  have hby := Bd.bytes
  have hml : c.maxLocals = 1 := hml0
  have hown : s.vm.findClass "com/example/yanta/yanta/policy/Effect" = some m.cls := findClass_of_methodNamed Bd.named
  have hnm := (name_of_methodNamed Bd.named Bd.method).1
  have X0 : Stand p l e ({ frames := 0, cells := 0, slots := 0, locals := 0 } : Room) s m #[(.ref wF)] below meth c s₁ [] 0 0 := Stand.of_body Bd
  have e0 : s₁.heap = h0 := by rw [← hh, Bd.state]; rfl
  have N0 := Fr.nil n0
  have hn0 : Z.heap.size = n0 := O0.1
  have KT0 : Keep h0 h0 [] := Keep.refl _ _
  refine own_enter (Φ := fun o U' => ∃ v L, o = .returned v ∧ Q_rmF Z wA wF h0 n0 v U'.heap L ∧ FrameEnd s o U' L ({ frames := 0, cells := 0, slots := 0, locals := 0 } : Room).cells ({ frames := 0, cells := 0, slots := 0, locals := 0 } : Room).slots) (own_ef_rmF m wF) ?_
  have ne1 : wF ≠ wA := GS.2.2.2.2.2.ne GS.2.2.2.2.1 (by simp)
  refine own_by (T' := s₁) (g' := (mkF m 1 #[.val (.ref wF)] [(.ref wF)])) (fun _ k => XS.aloadN X0.here hx rfl (hb hby own_d1_0) rfl rfl k) ?_
  have f2 := GS.1.ext O0.2
  obtain ⟨T3, X3, e3, st3⟩ := getS2 X0 hx hZ hown (host := "") (Or.inl (hw _ (List.mem_of_getElem? (i := 8) rfl))) Via.refl e0 f2 (g := (mkF m 1 #[.val (.ref wF)] [(.ref wF)])) rfl (hb hby own_d1_1)
  refine own_by (T' := T3) (g' := (mkF m 4 #[.val (.ref wF)] [(.ref wA), (.ref wF)])) st3 ?_
  refine own_by (T' := T3) (g' := (mkF m 13 #[.val (.ref wF)] [])) (fun _ k => Jvm.RoadKit.acmp (g := (mkF m 4 #[.val (.ref wF)] [(.ref wA), (.ref wF)])) X3 hx rfl rfl rfl (pc0 := 4) (pc' := 13) (same := false) rfl (hb hby own_d1_4) rfl (decide_eq_false fun q => ne1 (Value.ref.inj q)) (by decide) (by decide) k) ?_
  obtain ⟨T4, X4, e4, st4⟩ := getS2 X3 hx hZ hown (host := "") (Or.inl (hw _ (List.mem_of_getElem? (i := 8) rfl))) Via.refl e3 f2 (g := (mkF m 13 #[.val (.ref wF)] [])) rfl (hb hby own_d1_13)
  refine own_by (T' := T4) (g' := (mkF m 16 #[.val (.ref wF)] [(.ref wA)])) st4 ?_
  obtain ⟨fs5, hr5, hrun5, hended5, hW5, hsame5⟩ := X4.leave (v := some (.ref wA)) (fun h => by rw [Bd.returns] at h; cases h)
  refine ⟨_, _, retOut X4 hx (t := (.object "com/example/yanta/yanta/policy/Effect")) Bd.returns rfl (Or.inr (Or.inr (Or.inr (Or.inr ⟨rfl, rfl, rfl⟩)))) (hb hby own_d1_16) hr5, hrun5, hended5, _, _, rfl, ?_, ⟨_, rfl⟩, hW5, hsame5.mono (by decide) (by decide)⟩
  show Q_rmF Z wA wF h0 n0 _ T4.heap _
  exact ⟨rfl, N0, e4⟩
theorem own_pd_0 : parseMethodDescriptor "()Lcom/example/yanta/yanta/policy/Effect;" = some ⟨[], some (.object "com/example/yanta/yanta/policy/Effect")⟩ := by decide +kernel
theorem own_pn_com_example_yanta_yanta_policy_EffectOppositePinLaw : plainName "com/example/yanta/yanta/policy/EffectOppositePinLaw" = true := by first | (simp [plainName, overriddenIn]; done) | decide +kernel
theorem own_ef_rm0 (m : MethodId) (x0 : Int32) : entryFrame m #[(.int x0)] maxLocals = mkF m 0 #[.val (.int x0), .unset, .unset, .unset] [] := by first | (simp [entryFrame, mkF, argsToLocals, Value.category, maxLocals]; done) | rfl
def Q_rm0 (Z : State) (wA : Addr) (wF : Addr) (p0 : Int32) (h0 : Heap) (n0 : Nat) (v : Option Value) (h : Heap) (L : List Loc) : Prop := v = some (.int (1 : Int32)) ∧ Fr n0 L
set_option maxRecDepth 65536 in
set_option maxHeartbeats 40000000 in
theorem rm0 (l : Launch) (Z : State) (a0 : Array Value) (hw : ∀ d ∈ tables_1, d.before a0 Z = true) (ws : List Jvm.Cond) (wA : Addr) (wF : Addr) (GS : Glob Z wA wF) (p0 : Int32) (h0 : Heap) (n0 : Nat) (Z0 : n0 ≤ h0.size) (O0 : Old Z n0 h0) :
    MetFree l x (head1 (Jvm.Cond.code x code maxLocals ret :: ws) room_1) (fun a U => a = #[(.int p0)] ∧ Z.Warmed39 U.vm ∧ U.heap = h0) (fun _ _ _ _ _ => True) (fun _ U o U' => ∃ v L, o = .returned v ∧ Q_rm0 Z wA wF p0 h0 n0 v U'.heap L ∧ FrameEnd U o U' L 0 0) := by
  refine MetFree.of_bodySF (plainFor_of_name own_pn_com_example_yanta_yanta_policy_EffectOppositePinLaw) hisR ?_
  intro p e s m args below meth c s₁ Bd hml0 hP hK
  obtain ⟨rfl, hZ, hh⟩ := hP
  have hx := Bd.exec
  have hby := Bd.bytes
  have hml : c.maxLocals = 4 := hml0
  have hown : s.vm.findClass "com/example/yanta/yanta/policy/EffectOppositePinLaw" = some m.cls := findClass_of_methodNamed Bd.named
  have hnm := (name_of_methodNamed Bd.named Bd.method).1
  have X0 : Stand p l e room_1 s m #[(.int p0)] below meth c s₁ [] 0 0 := Stand.of_body Bd
  have e0 : s₁.heap = h0 := by rw [← hh, Bd.state]; rfl
  have N0 := Fr.nil n0
  have hn0 : Z.heap.size = n0 := O0.1
  have KT0 : Keep h0 h0 [] := Keep.refl _ _
  refine own_enter (Φ := fun o U' => ∃ v L, o = .returned v ∧ Q_rm0 Z wA wF p0 h0 n0 v U'.heap L ∧ FrameEnd s o U' L 0 0) (own_ef_rm0 m p0) ?_
  have ne1 : wF ≠ wA := GS.2.2.2.2.2.ne GS.2.2.2.2.1 (by simp)
  refine own_by (T' := s₁) (g' := (mkF m 1 #[.val (.int p0), .unset, .unset, .unset] [(.int p0)])) (fun _ k => XS.iloadN X0.here hx rfl (hb hby at_0) rfl k) ?_
  refine own_by (T' := s₁) (g' := (mkF m 2 #[.val (.int p0), .unset, .unset, .unset] [(.int (1 : Int32)), (.int p0)])) (fun _ k => XS.iconst X0.here hx rfl (hb hby at_1) k) ?_
  refine own_by (T' := s₁) (g' := (mkF m 3 #[.val (.int p0), .unset, .unset, .unset] [(.int (p0 &&& (1 : Int32)))])) (fun _ k => XS.iand X0.here hx rfl (hb hby at_2) rfl k) ?_
  by_cases hc2 : (p0 &&& (1 : Int32)) = (0 : Int32)
  · refine own_by (T' := s₁) (g' := (mkF m 12 #[.val (.int p0), .unset, .unset, .unset] [])) (fun _ k => XS.ifYes X0.here hx rfl (pc0 := 3) (pc' := 12) rfl (hb hby at_3) rfl (XT.i0_eq_t hc2) (by decide) (by decide) k) ?_
    have f3 := GS.2.1.ext O0.2
    obtain ⟨T4, X4, e4, st4⟩ := getS2 X0 hx hZ hown (host := "") (Or.inl (hw _ (List.mem_of_getElem? (i := 0) rfl))) Via.refl e0 f3 (g := (mkF m 12 #[.val (.int p0), .unset, .unset, .unset] [])) rfl (hb hby at_12)
    refine own_by (T' := T4) (g' := (mkF m 15 #[.val (.int p0), .unset, .unset, .unset] [(.ref wF)])) st4 ?_
    refine own_by (T' := T4) (g' := (mkF m 16 #[.val (.int p0), .val (.ref wF), .unset, .unset] [])) (fun _ k => XS.astoreN X4.here hx rfl (hb hby at_15) rfl rfl (l' := #[.val (.int p0), .val (.ref wF), .unset, .unset]) rfl k) ?_
    refine own_by (T' := T4) (g' := (mkF m 17 #[.val (.int p0), .val (.ref wF), .unset, .unset] [(.ref wF)])) (fun _ k => XS.aloadN X4.here hx rfl (hb hby at_16) rfl rfl k) ?_
    have f6 := GS.2.2.2.1.ext O0.2
    obtain ⟨cq5, kq5, q5a, q5b, q5c⟩ := isOf hZ e4 f6
    obtain ⟨_, _, ⟨T5, L5, k5, n5⟩, -, X5, ⟨Lc5, hQ5, l5, y5, z5⟩, st5⟩ := X4.virtualBack hx (y := (⟨"com/example/yanta/yanta/policy/Effect", "opposite", "()Lcom/example/yanta/yanta/policy/Effect;"⟩ : MethodName)) (z := (⟨"com/example/yanta/yanta/policy/Effect", "opposite", "()Lcom/example/yanta/yanta/policy/Effect;"⟩ : MethodName)) hown (mvT hZ (hw _ (List.mem_of_getElem? (i := 3) rfl))) (mvT hZ (hw _ (List.mem_of_getElem? (i := 4) rfl))) (notFace_of_selects (args := #[]) (mvT hZ (hw _ (List.mem_of_getElem? (i := 6) rfl)))) (mvT hZ (hw _ (List.mem_of_getElem? (i := 6) rfl))) (mvT hZ (hw _ (List.mem_of_getElem? (i := 5) rfl))) (by decide) (backOf (W := 0) (rmF l Z a0 hw [] wA wF GS  h0 n0 (by omega) O0 ) hZ (hw _ (List.mem_of_getElem? (i := 7) rfl)) (hw _ (List.mem_of_getElem? (i := 1) rfl)) (by decide) (by decide)) q5a q5c (g := (mkF m 17 #[.val (.int p0), .val (.ref wF), .unset, .unset] [(.ref wF)])) rfl (by rw [hml]; rfl) (Steps.refl _) (argsL := []) (rest := []) (lenOf own_pd_0 rfl) rfl (by show 2 * 0 + _ ≤ _; exact Nat.le_of_eq rfl) (hb hby at_17) (fun _ _ => ⟨rfl, e4, (by decide : 0 + 0 ≤ _), (by decide : 0 + 0 ≤ _)⟩)
    dsimp only [Pt.U, Pt.locs, Pt.cells, Pt.slots] at X5 l5 y5 z5 st5 hQ5
    subst l5 y5 z5
    obtain ⟨rfl, N5q, e5⟩ := hQ5
    have N7 := Fr.app N0 N5q
    refine own_by (T' := T5) (g' := (mkF m 20 #[.val (.int p0), .val (.ref wF), .unset, .unset] [(.ref wA)])) (fun _ k => st5.trans k) ?_
    refine own_by (T' := T5) (g' := (mkF m 21 #[.val (.int p0), .val (.ref wF), .val (.ref wA), .unset] [])) (fun _ k => XS.astoreN X5.here hx rfl (hb hby at_20) rfl rfl (l' := #[.val (.int p0), .val (.ref wF), .val (.ref wA), .unset]) rfl k) ?_
    refine own_by (T' := T5) (g' := (mkF m 22 #[.val (.int p0), .val (.ref wF), .val (.ref wA), .unset] [(.ref wA)])) (fun _ k => XS.aloadN X5.here hx rfl (hb hby at_21) rfl rfl k) ?_
    refine own_by (T' := T5) (g' := (mkF m 27 #[.val (.int p0), .val (.ref wF), .val (.ref wA), .unset] [])) (fun _ k => XS.ifnonnullYes X5.here hx rfl (pc0 := 22) (pc' := 27) rfl (hb hby at_22) rfl (by decide) (by decide) k) ?_
    refine own_by (T' := T5) (g' := (mkF m 28 #[.val (.int p0), .val (.ref wF), .val (.ref wA), .unset] [(.ref wA)])) (fun _ k => XS.aloadN X5.here hx rfl (hb hby at_27) rfl rfl k) ?_
    refine own_by (T' := T5) (g' := (mkF m 29 #[.val (.int p0), .val (.ref wF), .val (.ref wA), .unset] [(.ref wF), (.ref wA)])) (fun _ k => XS.aloadN X5.here hx rfl (hb hby at_28) rfl rfl k) ?_
    refine own_by (T' := T5) (g' := (mkF m 34 #[.val (.int p0), .val (.ref wF), .val (.ref wA), .unset] [])) (fun _ k => Jvm.RoadKit.acmp (g := (mkF m 29 #[.val (.int p0), .val (.ref wF), .val (.ref wA), .unset] [(.ref wF), (.ref wA)])) X5 hx rfl rfl rfl (pc0 := 29) (pc' := 34) (same := false) rfl (hb hby at_29) rfl (decide_eq_false fun q => (Ne.symm ne1) (Value.ref.inj q)) (by decide) (by decide) k) ?_
    refine own_by (T' := T5) (g' := (mkF m 35 #[.val (.int p0), .val (.ref wF), .val (.ref wA), .unset] [(.ref wA)])) (fun _ k => XS.aloadN X5.here hx rfl (hb hby at_34) rfl rfl k) ?_
    have f9 := GS.2.2.1.ext O0.2
    obtain ⟨cq8, kq8, q8a, q8b, q8c⟩ := isOf hZ e5 f9
    obtain ⟨_, _, ⟨T8, L8, k8, n8⟩, -, X8, ⟨Lc8, hQ8, l8, y8, z8⟩, st8⟩ := X5.virtualBack hx (y := (⟨"com/example/yanta/yanta/policy/Effect", "opposite", "()Lcom/example/yanta/yanta/policy/Effect;"⟩ : MethodName)) (z := (⟨"com/example/yanta/yanta/policy/Effect", "opposite", "()Lcom/example/yanta/yanta/policy/Effect;"⟩ : MethodName)) hown (mvT hZ (hw _ (List.mem_of_getElem? (i := 3) rfl))) (mvT hZ (hw _ (List.mem_of_getElem? (i := 4) rfl))) (notFace_of_selects (args := #[]) (mvT hZ (hw _ (List.mem_of_getElem? (i := 6) rfl)))) (mvT hZ (hw _ (List.mem_of_getElem? (i := 6) rfl))) (mvT hZ (hw _ (List.mem_of_getElem? (i := 5) rfl))) (by decide) (backOf (W := 0) (rmA l Z a0 hw [] wA wF GS  h0 n0 (by omega) O0 ) hZ (hw _ (List.mem_of_getElem? (i := 7) rfl)) (hw _ (List.mem_of_getElem? (i := 1) rfl)) (by decide) (by decide)) q8a q8c (g := (mkF m 35 #[.val (.int p0), .val (.ref wF), .val (.ref wA), .unset] [(.ref wA)])) rfl (by rw [hml]; rfl) (Steps.refl _) (argsL := []) (rest := []) (lenOf own_pd_0 rfl) rfl (by show 2 * 0 + _ ≤ _; exact Nat.le_of_eq rfl) (hb hby at_35) (fun _ _ => ⟨rfl, e5, (by decide : 0 + 0 ≤ _), (by decide : 0 + 0 ≤ _)⟩)
    dsimp only [Pt.U, Pt.locs, Pt.cells, Pt.slots] at X8 l8 y8 z8 st8 hQ8
    subst l8 y8 z8
    obtain ⟨rfl, N8q, e8⟩ := hQ8
    have N10 := Fr.app N7 N8q
    refine own_by (T' := T8) (g' := (mkF m 38 #[.val (.int p0), .val (.ref wF), .val (.ref wA), .unset] [(.ref wF)])) (fun _ k => st8.trans k) ?_
    refine own_by (T' := T8) (g' := (mkF m 39 #[.val (.int p0), .val (.ref wF), .val (.ref wA), .val (.ref wF)] [])) (fun _ k => XS.astoreN X8.here hx rfl (hb hby at_38) rfl rfl (l' := #[.val (.int p0), .val (.ref wF), .val (.ref wA), .val (.ref wF)]) rfl k) ?_
    refine own_by (T' := T8) (g' := (mkF m 40 #[.val (.int p0), .val (.ref wF), .val (.ref wA), .val (.ref wF)] [(.ref wF)])) (fun _ k => XS.aloadN X8.here hx rfl (hb hby at_39) rfl rfl k) ?_
    refine own_by (T' := T8) (g' := (mkF m 41 #[.val (.int p0), .val (.ref wF), .val (.ref wA), .val (.ref wF)] [(.ref wF), (.ref wF)])) (fun _ k => XS.aloadN X8.here hx rfl (hb hby at_40) rfl rfl k) ?_
    refine own_by (T' := T8) (g' := (mkF m 44 #[.val (.int p0), .val (.ref wF), .val (.ref wA), .val (.ref wF)] [])) (fun _ k => Jvm.RoadKit.acmp (g := (mkF m 41 #[.val (.int p0), .val (.ref wF), .val (.ref wA), .val (.ref wF)] [(.ref wF), (.ref wF)])) X8 hx rfl rfl rfl (pc0 := 41) (pc' := 44) (same := true) rfl (hb hby at_41) rfl (decide_eq_true rfl) (by decide) (by decide) k) ?_
    refine own_by (T' := T8) (g' := (mkF m 45 #[.val (.int p0), .val (.ref wF), .val (.ref wA), .val (.ref wF)] [(.int (1 : Int32))])) (fun _ k => XS.iconst X8.here hx rfl (hb hby at_44) k) ?_
    refine own_by (T' := T8) (g' := (mkF m 49 #[.val (.int p0), .val (.ref wF), .val (.ref wA), .val (.ref wF)] [(.int (1 : Int32))])) (fun _ k => XS.goto X8.here hx rfl (pc0 := 45) (pc' := 49) rfl (hb hby at_45) (by decide) (by decide) k) ?_
    have hn11 : nar .boolean (1 : Int32) = (1 : Int32) := rfl
    obtain ⟨fs12, hr12, hrun12, hended12, hW12, hsame12⟩ := X8.leave (v := some (.int (nar .boolean (1 : Int32)))) (fun h => by rw [Bd.returns] at h; cases h)
    refine ⟨_, _, retN X8 hx (t := .boolean) Bd.returns (by simp) (hb hby at_49) hr12, hrun12, hended12, _, _, rfl, ?_, ⟨_, rfl⟩, hW12, hsame12.mono (by decide) (by decide)⟩
    show Q_rm0 Z wA wF p0 h0 n0 _ T8.heap _
    exact ⟨(congrArg (fun z => some (Value.int z)) hn11), N10⟩
  · refine own_by (T' := s₁) (g' := (mkF m 6 #[.val (.int p0), .unset, .unset, .unset] [])) (fun _ k => XS.ifNo X0.here hx rfl (hb hby at_3) rfl (XT.i0_eq_f hc2) k) ?_
    have f13 := GS.1.ext O0.2
    obtain ⟨T14, X14, e14, st14⟩ := getS2 X0 hx hZ hown (host := "") (Or.inl (hw _ (List.mem_of_getElem? (i := 11) rfl))) Via.refl e0 f13 (g := (mkF m 6 #[.val (.int p0), .unset, .unset, .unset] [])) rfl (hb hby at_6)
    refine own_by (T' := T14) (g' := (mkF m 9 #[.val (.int p0), .unset, .unset, .unset] [(.ref wA)])) st14 ?_
    refine own_by (T' := T14) (g' := (mkF m 15 #[.val (.int p0), .unset, .unset, .unset] [(.ref wA)])) (fun _ k => XS.goto X14.here hx rfl (pc0 := 9) (pc' := 15) rfl (hb hby at_9) (by decide) (by decide) k) ?_
    refine own_by (T' := T14) (g' := (mkF m 16 #[.val (.int p0), .val (.ref wA), .unset, .unset] [])) (fun _ k => XS.astoreN X14.here hx rfl (hb hby at_15) rfl rfl (l' := #[.val (.int p0), .val (.ref wA), .unset, .unset]) rfl k) ?_
    refine own_by (T' := T14) (g' := (mkF m 17 #[.val (.int p0), .val (.ref wA), .unset, .unset] [(.ref wA)])) (fun _ k => XS.aloadN X14.here hx rfl (hb hby at_16) rfl rfl k) ?_
    have f16 := GS.2.2.1.ext O0.2
    obtain ⟨cq15, kq15, q15a, q15b, q15c⟩ := isOf hZ e14 f16
    obtain ⟨_, _, ⟨T15, L15, k15, n15⟩, -, X15, ⟨Lc15, hQ15, l15, y15, z15⟩, st15⟩ := X14.virtualBack hx (y := (⟨"com/example/yanta/yanta/policy/Effect", "opposite", "()Lcom/example/yanta/yanta/policy/Effect;"⟩ : MethodName)) (z := (⟨"com/example/yanta/yanta/policy/Effect", "opposite", "()Lcom/example/yanta/yanta/policy/Effect;"⟩ : MethodName)) hown (mvT hZ (hw _ (List.mem_of_getElem? (i := 3) rfl))) (mvT hZ (hw _ (List.mem_of_getElem? (i := 4) rfl))) (notFace_of_selects (args := #[]) (mvT hZ (hw _ (List.mem_of_getElem? (i := 6) rfl)))) (mvT hZ (hw _ (List.mem_of_getElem? (i := 6) rfl))) (mvT hZ (hw _ (List.mem_of_getElem? (i := 5) rfl))) (by decide) (backOf (W := 0) (rmA l Z a0 hw [] wA wF GS  h0 n0 (by omega) O0 ) hZ (hw _ (List.mem_of_getElem? (i := 7) rfl)) (hw _ (List.mem_of_getElem? (i := 1) rfl)) (by decide) (by decide)) q15a q15c (g := (mkF m 17 #[.val (.int p0), .val (.ref wA), .unset, .unset] [(.ref wA)])) rfl (by rw [hml]; rfl) (Steps.refl _) (argsL := []) (rest := []) (lenOf own_pd_0 rfl) rfl (by show 2 * 0 + _ ≤ _; exact Nat.le_of_eq rfl) (hb hby at_17) (fun _ _ => ⟨rfl, e14, (by decide : 0 + 0 ≤ _), (by decide : 0 + 0 ≤ _)⟩)
    dsimp only [Pt.U, Pt.locs, Pt.cells, Pt.slots] at X15 l15 y15 z15 st15 hQ15
    subst l15 y15 z15
    obtain ⟨rfl, N15q, e15⟩ := hQ15
    have N17 := Fr.app N0 N15q
    refine own_by (T' := T15) (g' := (mkF m 20 #[.val (.int p0), .val (.ref wA), .unset, .unset] [(.ref wF)])) (fun _ k => st15.trans k) ?_
    refine own_by (T' := T15) (g' := (mkF m 21 #[.val (.int p0), .val (.ref wA), .val (.ref wF), .unset] [])) (fun _ k => XS.astoreN X15.here hx rfl (hb hby at_20) rfl rfl (l' := #[.val (.int p0), .val (.ref wA), .val (.ref wF), .unset]) rfl k) ?_
    refine own_by (T' := T15) (g' := (mkF m 22 #[.val (.int p0), .val (.ref wA), .val (.ref wF), .unset] [(.ref wF)])) (fun _ k => XS.aloadN X15.here hx rfl (hb hby at_21) rfl rfl k) ?_
    refine own_by (T' := T15) (g' := (mkF m 27 #[.val (.int p0), .val (.ref wA), .val (.ref wF), .unset] [])) (fun _ k => XS.ifnonnullYes X15.here hx rfl (pc0 := 22) (pc' := 27) rfl (hb hby at_22) rfl (by decide) (by decide) k) ?_
    refine own_by (T' := T15) (g' := (mkF m 28 #[.val (.int p0), .val (.ref wA), .val (.ref wF), .unset] [(.ref wF)])) (fun _ k => XS.aloadN X15.here hx rfl (hb hby at_27) rfl rfl k) ?_
    refine own_by (T' := T15) (g' := (mkF m 29 #[.val (.int p0), .val (.ref wA), .val (.ref wF), .unset] [(.ref wA), (.ref wF)])) (fun _ k => XS.aloadN X15.here hx rfl (hb hby at_28) rfl rfl k) ?_
    refine own_by (T' := T15) (g' := (mkF m 34 #[.val (.int p0), .val (.ref wA), .val (.ref wF), .unset] [])) (fun _ k => Jvm.RoadKit.acmp (g := (mkF m 29 #[.val (.int p0), .val (.ref wA), .val (.ref wF), .unset] [(.ref wA), (.ref wF)])) X15 hx rfl rfl rfl (pc0 := 29) (pc' := 34) (same := false) rfl (hb hby at_29) rfl (decide_eq_false fun q => ne1 (Value.ref.inj q)) (by decide) (by decide) k) ?_
    refine own_by (T' := T15) (g' := (mkF m 35 #[.val (.int p0), .val (.ref wA), .val (.ref wF), .unset] [(.ref wF)])) (fun _ k => XS.aloadN X15.here hx rfl (hb hby at_34) rfl rfl k) ?_
    have f19 := GS.2.2.2.1.ext O0.2
    obtain ⟨cq18, kq18, q18a, q18b, q18c⟩ := isOf hZ e15 f19
    obtain ⟨_, _, ⟨T18, L18, k18, n18⟩, -, X18, ⟨Lc18, hQ18, l18, y18, z18⟩, st18⟩ := X15.virtualBack hx (y := (⟨"com/example/yanta/yanta/policy/Effect", "opposite", "()Lcom/example/yanta/yanta/policy/Effect;"⟩ : MethodName)) (z := (⟨"com/example/yanta/yanta/policy/Effect", "opposite", "()Lcom/example/yanta/yanta/policy/Effect;"⟩ : MethodName)) hown (mvT hZ (hw _ (List.mem_of_getElem? (i := 3) rfl))) (mvT hZ (hw _ (List.mem_of_getElem? (i := 4) rfl))) (notFace_of_selects (args := #[]) (mvT hZ (hw _ (List.mem_of_getElem? (i := 6) rfl)))) (mvT hZ (hw _ (List.mem_of_getElem? (i := 6) rfl))) (mvT hZ (hw _ (List.mem_of_getElem? (i := 5) rfl))) (by decide) (backOf (W := 0) (rmF l Z a0 hw [] wA wF GS  h0 n0 (by omega) O0 ) hZ (hw _ (List.mem_of_getElem? (i := 7) rfl)) (hw _ (List.mem_of_getElem? (i := 1) rfl)) (by decide) (by decide)) q18a q18c (g := (mkF m 35 #[.val (.int p0), .val (.ref wA), .val (.ref wF), .unset] [(.ref wF)])) rfl (by rw [hml]; rfl) (Steps.refl _) (argsL := []) (rest := []) (lenOf own_pd_0 rfl) rfl (by show 2 * 0 + _ ≤ _; exact Nat.le_of_eq rfl) (hb hby at_35) (fun _ _ => ⟨rfl, e15, (by decide : 0 + 0 ≤ _), (by decide : 0 + 0 ≤ _)⟩)
    dsimp only [Pt.U, Pt.locs, Pt.cells, Pt.slots] at X18 l18 y18 z18 st18 hQ18
    subst l18 y18 z18
    obtain ⟨rfl, N18q, e18⟩ := hQ18
    have N20 := Fr.app N17 N18q
    refine own_by (T' := T18) (g' := (mkF m 38 #[.val (.int p0), .val (.ref wA), .val (.ref wF), .unset] [(.ref wA)])) (fun _ k => st18.trans k) ?_
    refine own_by (T' := T18) (g' := (mkF m 39 #[.val (.int p0), .val (.ref wA), .val (.ref wF), .val (.ref wA)] [])) (fun _ k => XS.astoreN X18.here hx rfl (hb hby at_38) rfl rfl (l' := #[.val (.int p0), .val (.ref wA), .val (.ref wF), .val (.ref wA)]) rfl k) ?_
    refine own_by (T' := T18) (g' := (mkF m 40 #[.val (.int p0), .val (.ref wA), .val (.ref wF), .val (.ref wA)] [(.ref wA)])) (fun _ k => XS.aloadN X18.here hx rfl (hb hby at_39) rfl rfl k) ?_
    refine own_by (T' := T18) (g' := (mkF m 41 #[.val (.int p0), .val (.ref wA), .val (.ref wF), .val (.ref wA)] [(.ref wA), (.ref wA)])) (fun _ k => XS.aloadN X18.here hx rfl (hb hby at_40) rfl rfl k) ?_
    refine own_by (T' := T18) (g' := (mkF m 44 #[.val (.int p0), .val (.ref wA), .val (.ref wF), .val (.ref wA)] [])) (fun _ k => Jvm.RoadKit.acmp (g := (mkF m 41 #[.val (.int p0), .val (.ref wA), .val (.ref wF), .val (.ref wA)] [(.ref wA), (.ref wA)])) X18 hx rfl rfl rfl (pc0 := 41) (pc' := 44) (same := true) rfl (hb hby at_41) rfl (decide_eq_true rfl) (by decide) (by decide) k) ?_
    refine own_by (T' := T18) (g' := (mkF m 45 #[.val (.int p0), .val (.ref wA), .val (.ref wF), .val (.ref wA)] [(.int (1 : Int32))])) (fun _ k => XS.iconst X18.here hx rfl (hb hby at_44) k) ?_
    refine own_by (T' := T18) (g' := (mkF m 49 #[.val (.int p0), .val (.ref wA), .val (.ref wF), .val (.ref wA)] [(.int (1 : Int32))])) (fun _ k => XS.goto X18.here hx rfl (pc0 := 45) (pc' := 49) rfl (hb hby at_45) (by decide) (by decide) k) ?_
    have hn21 : nar .boolean (1 : Int32) = (1 : Int32) := rfl
    obtain ⟨fs22, hr22, hrun22, hended22, hW22, hsame22⟩ := X18.leave (v := some (.int (nar .boolean (1 : Int32)))) (fun h => by rw [Bd.returns] at h; cases h)
    refine ⟨_, _, retN X18 hx (t := .boolean) Bd.returns (by simp) (hb hby at_49) hr22, hrun22, hended22, _, _, rfl, ?_, ⟨_, rfl⟩, hW22, hsame22.mono (by decide) (by decide)⟩
    show Q_rm0 Z wA wF p0 h0 n0 _ T18.heap _
    exact ⟨(congrArg (fun z => some (Value.int z)) hn21), N20⟩
set_option maxRecDepth 65536 in
set_option maxHeartbeats 40000000 in
theorem comes_1 {Post : Tables → Env → Array Value → State → Outcome → State → Prop} (hpost : ∀ tb e args s v u, (limb_1_1.after args s (.returned v) u = true ∧ limb_1_2.after args s (.returned v) u = true ∧ True) → FrameEnd s (.returned v) u (Jvm.fieldLocs frame_1_writes args s ++ Jvm.arrayLocs frame_1_arrays args s ++ Jvm.staticLocs frame_1_statics s) 0 0 → Post tb e args s (.returned v) u) :
    ArmFor flags0 classFile x code maxLocals ret World_1 tables_1 room_1 Calls_1 rest_1 Pre_1 Post := by
  intro l hfl _ _ p e ha hc hk s m args below hf hA hF happ hP
  obtain ⟨hcalls, hrest, hpre⟩ := hP
  obtain ⟨-, -, -, hnamed, -, -, -, hat⟩ := (Spec.applies_iff hf).mp happ
  obtain ⟨hg, hn⟩ := and_e (Cond.before_iff.mp (show (Jvm.Cond.and given_1 narrow_1).before args s = true from hpre))
  obtain ⟨g1a, g1b⟩ := and_e hg
  obtain ⟨g2a, g2b⟩ := and_e hn
  obtain ⟨g3a, g3b⟩ := and_e g2b
  obtain ⟨g4a, g4b⟩ := and_e g3b
  obtain ⟨w0, rfl⟩ : ∃ w0 : Value, args = #[w0] := by
    have hs : args.size = 1 := by simpa [Cond.value, given_1] using g1a
    obtain ⟨L⟩ := args
    match L, hs with
    | [w0], _ => exact ⟨w0, rfl⟩
  have hw := fun d (hd : d ∈ tables_1) => atoms_spec (ws := Jvm.Cond.code x code maxLocals ret :: tables_1) hat d (List.mem_cons_of_mem _ hd)
  have hfit : Fit s := fun {y c} hc i hi => by
    obtain ⟨ha, rfl⟩ := Array.getElem?_eq_some_iff.mp hc
    have q := List.all_eq_true.mp ((Array.all_eq_true_iff_forall_mem.mp hF) _ (Array.getElem_mem ha)) i (List.mem_range.mpr hi)
    simpa [Array.getElem?_eq_getElem hi] using q
  obtain ⟨i0, ei0⟩ := is_v g1b
  obtain rfl : w0 = (.int i0) := Option.some.inj ei0
  obtain ⟨wA, ev_wA⟩ := exa_v g3a
  have sta_wA := Sta.start ev_wA (Or.inr ⟨(hw _ (List.mem_of_getElem? (i := 1) rfl)), (hw _ (List.mem_of_getElem? (i := 9) rfl))⟩)
  obtain ⟨wF, ev_wF⟩ := exa_v g2a
  have sta_wF := Sta.start ev_wF (Or.inr ⟨(hw _ (List.mem_of_getElem? (i := 1) rfl)), (hw _ (List.mem_of_getElem? (i := 2) rfl))⟩)
  have exa_wA := Exa.start ev_wA g3a
  have exa_wF := Exa.start ev_wF g2a
  have fld_wA_ordinal := own_fldI ev_wA g4b
  have fld_wF_ordinal := own_fldI ev_wF g4a
  have GS : Glob s wA wF := ⟨sta_wA, sta_wF, exa_wA, exa_wF, fld_wA_ordinal, fld_wF_ordinal⟩
  obtain ⟨n, o, h1, h2, h3, _, L, rfl, ⟨rfl, N⟩, hq⟩ := rm0 l s _ hw tables_1 wA wF GS i0 s.heap s.heap.size (Nat.le_refl _) (Old.start s) p e ha hc hk s m _ below hf ((Spec.applies_iff_loose hf).mp happ).1 ⟨rfl, State.Warmed39.refl s, rfl⟩ trivial
  refine ⟨n, _, h1, h2, h3, hpost _ _ _ _ _ _ ⟨Cond.after_iff.mpr rfl, Cond.after_iff.mpr (eq_i res_at (Term.int_eval (1)) rfl), trivial⟩ ⟨hq.1, hq.2.1, (hq.2.2.sift fun y hy => Or.inr (N y hy)).mono (by decide) (by decide)⟩⟩
theorem main_1_1 : Claimed_1_1 := comes_1 fun _ _ _ _ _ _ h hF => ⟨h.1, hF⟩
theorem main_1_2 : Claimed_1_2 := comes_1 fun _ _ _ _ _ _ h hF => ⟨h.2.1, hF⟩
end Jvm.Pilot.@@N@@
namespace Jvm.Pilot.@@N@@
open Jvm Jvm.ClassFile Sem Op Lib Jvm.Free Jvm.Stand Jvm.Pilot.@@N@@.Jvm.D
/-! MADE BY PROGRAM (witnessworld.py) out of the Statement's table words and the real class files: 12 classes; the members and pool entries that the words name. The judged class is class 1, her method 1. -/
namespace start1
open Jvm.ClassFile
def u (s : String) : CpInfo := .utf8 (stringToUtf16 s)
/-- a pool by its gaps: so many unusable entries, then the entry; so many at the end -/
def gap : Nat → List CpInfo → List CpInfo
  | 0, r => r
  | n + 1, r => .unusable :: gap n r
def poolList (es : List (Nat × CpInfo)) (last : Nat) : List CpInfo := es.foldr (fun e r => gap e.1 (e.2 :: r)) (gap last [])
def pool (es : List (Nat × CpInfo)) (last : Nat) : Array CpInfo := ⟨poolList es last⟩
def fileOf (pool : Array CpInfo) (this : Nat) (attrs : Array Attribute := #[]) (ms : Array MethodInfo := #[]) (fl : Nat := 33) (sup : Nat := 0) (ifs : Array Nat := #[]) (fds : Array FieldInfo := #[]) : ClassFile where
  minorVersion := 0
  majorVersion := 65
  constantPool := pool
  accessFlags := fl
  thisClass := this
  superClass := sup
  interfaces := ifs
  fields := fds
  methods := ms
  attributes := attrs
def plain (name : String) (sup : Option ClassId) : Class where
  name := name
  kind := .ordinary
  loader := none
  accessFlags := 33
  super := sup
  interfaces := #[]
  cf := none
  fields := #[]
  methods := #[]
  instanceTypes := #[]
  staticTypes := #[]
  resolved := #[]
  callSites := []
  init := .initialized
  statics := none
  mirror := none

def pool0 : Array CpInfo := pool [(5, u "<init>"), (0, u "()V"), (1, .class_ 10), (1, u "java/lang/Object")] 113

def k0m0 : Method := { name := "<init>", desc := "()V", sig := { parameters := [], returnType := none }, accessFlags := 1, code := none }
/-- java/lang/Object -/
def k0 : Class := { plain "java/lang/Object" none with
  accessFlags := 33
  interfaces := #[]
  cf := some (fileOf pool0 8 #[] #[{ accessFlags := 1, nameIndex := 5, descriptorIndex := 6, attributes := #[] }] 33 0 #[] #[])
  fields := #[]
  methods := #[k0m0]
  instanceTypes := #[]
  staticTypes := #[]
  resolved := Array.replicate 124 none
  statics := none }

def pool1 : Array CpInfo := pool [(2, .class_ 4), (1, u "java/lang/Object"), (0, u "<init>"), (0, u "()V"), (0, .fieldref 8 9), (0, .class_ 10), (0, .nameAndType 11 12), (0, u "com/example/yanta/yanta/policy/Effect"), (0, u "ALLOW"), (0, u "Lcom/example/yanta/yanta/policy/Effect;"), (0, .fieldref 8 14), (0, .nameAndType 15 12), (0, u "FORBID"), (0, .methodref 8 17), (0, .nameAndType 18 19), (0, u "opposite"), (0, u "()Lcom/example/yanta/yanta/policy/Effect;"), (0, .class_ 21), (0, u "com/example/yanta/yanta/policy/EffectOppositePinLaw"), (2, u "law"), (0, u "(I)Z")] 3

def k1m0 : Method := { name := "<init>", desc := "()V", sig := { parameters := [], returnType := none }, accessFlags := 1, code := none }
def k1c1 : Code := { maxStack := 2, maxLocals := 4, code := code, exceptionTable := #[], attributes := #[] }
def k1m1 : Method := { name := "law", desc := "(I)Z", sig := { parameters := [.int], returnType := some .boolean }, accessFlags := 9, code := some k1c1 }
/-- com/example/yanta/yanta/policy/EffectOppositePinLaw -/
def k1 : Class := { plain "com/example/yanta/yanta/policy/EffectOppositePinLaw" (some 0) with
  accessFlags := 49
  interfaces := #[]
  cf := some (fileOf pool1 20 #[] #[{ accessFlags := 1, nameIndex := 5, descriptorIndex := 6, attributes := #[] }, { accessFlags := 9, nameIndex := 24, descriptorIndex := 25, attributes := #[] }] 49 2 #[] #[])
  fields := #[]
  methods := #[k1m0, k1m1]
  instanceTypes := #[]
  staticTypes := #[]
  resolved := Array.replicate 29 none
  statics := none }

def pool2 : Array CpInfo := pool [(1, .class_ 2), (0, u "java/lang/constant/Constable"), (0, .class_ 4), (0, u "java/lang/Object")] 6

/-- java/lang/constant/Constable -/
def k2 : Class := { plain "java/lang/constant/Constable" (some 0) with
  accessFlags := 1537
  interfaces := #[]
  cf := some (fileOf pool2 1 #[] #[] 1537 3 #[] #[])
  fields := #[]
  methods := #[]
  instanceTypes := #[]
  staticTypes := #[]
  resolved := Array.replicate 11 none
  statics := none }

def pool3 : Array CpInfo := pool [(1, .class_ 2), (0, u "java/lang/Comparable"), (0, .class_ 4), (0, u "java/lang/Object")] 7

/-- java/lang/Comparable -/
def k3 : Class := { plain "java/lang/Comparable" (some 0) with
  accessFlags := 1537
  interfaces := #[]
  cf := some (fileOf pool3 1 #[] #[] 1537 3 #[] #[])
  fields := #[]
  methods := #[]
  instanceTypes := #[]
  staticTypes := #[]
  resolved := Array.replicate 12 none
  statics := none }

def pool4 : Array CpInfo := pool [(1, .class_ 2), (0, u "java/io/Serializable"), (0, .class_ 4), (0, u "java/lang/Object")] 2

/-- java/io/Serializable -/
def k4 : Class := { plain "java/io/Serializable" (some 0) with
  accessFlags := 1537
  interfaces := #[]
  cf := some (fileOf pool4 1 #[] #[] 1537 3 #[] #[])
  fields := #[]
  methods := #[]
  instanceTypes := #[]
  staticTypes := #[]
  resolved := Array.replicate 7 none
  statics := none }

def pool5 : Array CpInfo := pool [(2, .class_ 4), (1, u "java/lang/Enum"), (0, u "name"), (0, u "Ljava/lang/String;"), (2, u "ordinal"), (0, u "I"), (1, .class_ 14), (1, u "java/lang/Object"), (4, u "hash"), (86, .class_ 108), (1, u "java/lang/Enum$EnumDesc"), (2, .class_ 112), (0, u "java/lang/constant/Constable"), (0, .class_ 114), (0, u "java/lang/Comparable"), (0, .class_ 116), (0, u "java/io/Serializable")] 87

/-- java/lang/Enum -/
def k5 : Class := { plain "java/lang/Enum" (some 0) with
  accessFlags := 1057
  interfaces := #[2, 3, 4]
  cf := some (fileOf pool5 2 #[.nestMembers #[106]] #[] 1057 12 #[111, 113, 115] #[{ accessFlags := 18, nameIndex := 5, descriptorIndex := 6, attributes := #[] }, { accessFlags := 18, nameIndex := 9, descriptorIndex := 10, attributes := #[] }, { accessFlags := 2, nameIndex := 19, descriptorIndex := 10, attributes := #[] }])
  fields := #[{ name := "name", type := (.object "java/lang/String"), accessFlags := 18, slot := 0, constantValue := 0 }, { name := "ordinal", type := .int, accessFlags := 18, slot := 1, constantValue := 0 }, { name := "hash", type := .int, accessFlags := 2, slot := 2, constantValue := 0 }]
  methods := #[]
  instanceTypes := #[(.object "java/lang/String"), .int, .int]
  staticTypes := #[]
  resolved := Array.replicate 204 none
  statics := none }

def pool6 : Array CpInfo := pool [(1, .class_ 2), (0, u "com/example/yanta/yanta/policy/Effect"), (0, .fieldref 1 4), (0, .nameAndType 5 6), (0, u "ALLOW"), (0, u "Lcom/example/yanta/yanta/policy/Effect;"), (0, .fieldref 1 8), (0, .nameAndType 9 6), (0, u "FORBID"), (2, u "$VALUES"), (0, u "[Lcom/example/yanta/yanta/policy/Effect;"), (6, .class_ 22), (1, u "java/lang/Enum"), (8, u "verb"), (0, u "Ljava/lang/String;"), (20, u "opposite"), (0, u "()Lcom/example/yanta/yanta/policy/Effect;")] 8

def k6c0 : Code := { maxStack := 2, maxLocals := 1, code := prog_16_method_4_code, exceptionTable := #[], attributes := #[] }
def k6m0 : Method := { name := "opposite", desc := "()Lcom/example/yanta/yanta/policy/Effect;", sig := { parameters := [], returnType := some (.object "com/example/yanta/yanta/policy/Effect") }, accessFlags := 1, code := some k6c0 }
/-- com/example/yanta/yanta/policy/Effect -/
def k6 : Class := { plain "com/example/yanta/yanta/policy/Effect" (some 5) with
  accessFlags := 16433
  interfaces := #[]
  cf := some (fileOf pool6 1 #[] #[{ accessFlags := 1, nameIndex := 53, descriptorIndex := 54, attributes := #[] }] 16433 20 #[] #[{ accessFlags := 16409, nameIndex := 5, descriptorIndex := 6, attributes := #[] }, { accessFlags := 16409, nameIndex := 9, descriptorIndex := 6, attributes := #[] }, { accessFlags := 18, nameIndex := 31, descriptorIndex := 32, attributes := #[] }, { accessFlags := 4122, nameIndex := 12, descriptorIndex := 13, attributes := #[] }])
  fields := #[{ name := "ALLOW", type := (.object "com/example/yanta/yanta/policy/Effect"), accessFlags := 16409, slot := 0, constantValue := 0 }, { name := "FORBID", type := (.object "com/example/yanta/yanta/policy/Effect"), accessFlags := 16409, slot := 1, constantValue := 0 }, { name := "verb", type := (.object "java/lang/String"), accessFlags := 18, slot := 3, constantValue := 0 }, { name := "$VALUES", type := (.array (.object "com/example/yanta/yanta/policy/Effect")), accessFlags := 4122, slot := 2, constantValue := 0 }]
  methods := #[k6m0]
  instanceTypes := #[(.object "java/lang/String"), .int, .int, (.object "java/lang/String")]
  staticTypes := #[(.object "com/example/yanta/yanta/policy/Effect"), (.object "com/example/yanta/yanta/policy/Effect"), (.array (.object "com/example/yanta/yanta/policy/Effect"))]
  resolved := Array.replicate 63 none
  statics := some 0 }

def pool7 : Array CpInfo := pool [(1, u "java/lang/Cloneable"), (0, .class_ 1), (0, u "java/lang/Object"), (0, .class_ 3)] 3

/-- java/lang/Cloneable -/
def k7 : Class := { plain "java/lang/Cloneable" (some 0) with
  accessFlags := 1537
  interfaces := #[]
  cf := some (fileOf pool7 2 #[] #[] 1537 4 #[] #[])
  fields := #[]
  methods := #[]
  instanceTypes := #[]
  staticTypes := #[]
  resolved := Array.replicate 8 none
  statics := none }

/-- the primitive byte -/
def k8 : Class := { plain "byte" none with kind := .primitive 'B', accessFlags := 0x411 }
/-- [B -/
def k9 : Class := { plain "[B" (some 0) with kind := .array 8 .byte, interfaces := #[7, 4], accessFlags := 1041 }

/-- the primitive int -/
def k10 : Class := { plain "int" none with kind := .primitive 'I', accessFlags := 0x411 }
/-- [I -/
def k11 : Class := { plain "[I" (some 0) with kind := .array 10 .int, interfaces := #[7, 4], accessFlags := 1041 }

def heap : Heap := #[{ cls := 6, slots := #[.ref 2, .ref 1, .null], vm := .statics 6 },
  { cls := 6, slots := #[.null, .int 1, .int 0, .null], vm := .none },
  { cls := 6, slots := #[.null, .int 0, .int 0, .null], vm := .none }]
def classes : Array Class := #[k0, k1, k2, k3, k4, k5, k6, k7, k8, k9, k10, k11]
def interned : List (Array UInt16 × Addr) := []
def slotsUsed : Nat := 11
def theMethod : MethodId := ⟨1, 1⟩
def args0 : Array Value := #[.int 1]
def aboutOver (below : List Frame) : State where
  vm := { classes := classes, interned := interned.toArray }
  heap := heap
  slotsUsed := slotsUsed
  threads := #[{ frames := .invoking theMethod args0 :: below }]
def below0 : List Frame := [.native { method := ⟨0, 0⟩, args := #[] }]
def about1 : State := aboutOver below0
def p0 : Program := .bare "" "" ""
def e0 : Env := launch0.env 0 0 0
theorem w_frames : about1.frames = Frame.invoking theMethod args0 :: below0 := rfl
set_option maxRecDepth 65536 in
theorem w_args : argsFit about1.vm theMethod args0 = true := by decide +kernel
set_option maxRecDepth 65536 in
theorem w_heap : heapFits about1 = true := by decide +kernel
set_option maxRecDepth 65536 in
theorem w_runnable : about1.curStatus? = some .runnable := by decide +kernel
set_option maxRecDepth 65536 in
theorem w_alone : about1.alone = true := by decide +kernel
set_option maxRecDepth 65536 in
theorem w_named : about1.methodNamed? x = some theMethod := by decide +kernel
set_option maxRecDepth 65536 in
theorem w_hears : about1.hears theMethod below0 = true := by decide +kernel
set_option maxRecDepth 65536 in
theorem w_ripe : about1.ripe theMethod args0 below0 = true := by decide +kernel
theorem w_running : about1.status = .running := rfl
set_option maxRecDepth 65536 in
theorem w_room : about1.hasRoom e0.platform room_1 = true :=
  launch0.hasRoom_least _ room_1 (by decide +kernel) (by decide +kernel) (by decide +kernel) (by decide +kernel) (by decide +kernel) (by decide +kernel)
theorem allAtoms_all (ts : List Jvm.Cond) (a : Array Jvm.Value) (st : Jvm.State) : (allAtoms ts).before a st = ts.all (fun c => c.before a st) := by
  induction ts with
  | nil => rfl
  | cons c t ih =>
    show (Jvm.Cond.and c (allAtoms t)).before a st = _
    rw [Jvm.Cond.before_and, ih, List.all_cons]
def words1 : List Jvm.Cond := Jvm.Cond.code x code maxLocals ret :: tables_1
/-- a 'code' word, met by the world's own term for the bytes: nothing is compared byte by byte -/
theorem code_word {y : MethodName} {bytes : ByteArray} {mx : Nat} {rt : Option FieldType} {a : Array Value} {s : State} {m : MethodId} {meth : Method} {c : Code} (h1 : s.methodNamed? y = some m) (h2 : s.vm.method? m = some meth) (h3 : meth.code = some c) (h4 : c.code = bytes)
    (h5 : (c.maxLocals == mx && c.exceptionTable.isEmpty && decide (c.maxStack ≤ mostOperands) && decide (meth.sig.returnType = rt) && !meth.locks && decide (parseMethodDescriptor y.desc = some meth.sig)) = true) : (Jvm.Cond.code y bytes mx rt).before a s = true := by
  simp only [Bool.and_eq_true, beq_iff_eq, Bool.not_eq_true', decide_eq_true_eq] at h5
  obtain ⟨⟨⟨⟨⟨g1, g2⟩, g3⟩, g4⟩, g5⟩, g6⟩ := h5
  simp [Cond.before, Cond.holds, Cond.value, h1, h2, h3, h4, g1, g2, g3, g4, g5, g6]
def isCode : Jvm.Cond → Bool
  | .code _ _ _ _ => true
  | _ => false
theorem all_split {L : List Jvm.Cond} {P : Jvm.Cond → Bool} (h1 : L.all (fun c => isCode c || P c) = true) (h2 : ∀ c ∈ L.filter isCode, P c = true) : L.all P = true := by
  refine List.all_eq_true.mpr fun c hc => ?_
  have h := List.all_eq_true.mp h1 c hc
  rcases Bool.eq_false_or_eq_true (isCode c) with hi | hi
  · exact h2 c (List.mem_filter.mpr ⟨hc, hi⟩)
  · simpa [hi] using h
set_option maxRecDepth 65536 in
theorem w_c0 : (Jvm.Cond.code x code maxLocals ret).before args0 about1 = true := code_word (m := ⟨1, 1⟩) (meth := k1m1) (c := k1c1) (by decide +kernel) rfl rfl rfl (by decide +kernel)
set_option maxRecDepth 65536 in
theorem w_c1 : (Jvm.Cond.code ({ cls := "com/example/yanta/yanta/policy/Effect", name := "opposite", desc := "()Lcom/example/yanta/yanta/policy/Effect;" } : Jvm.MethodName) prog_16_method_4_code (1 : Nat) (Option.some (Jvm.ClassFile.FieldType.object "com/example/yanta/yanta/policy/Effect"))).before args0 about1 = true := code_word (m := ⟨6, 0⟩) (meth := k6m0) (c := k6c0) (by decide +kernel) rfl rfl rfl (by decide +kernel)
def codes1 : List Jvm.Cond := [Jvm.Cond.code x code maxLocals ret, Jvm.Cond.code ({ cls := "com/example/yanta/yanta/policy/Effect", name := "opposite", desc := "()Lcom/example/yanta/yanta/policy/Effect;" } : Jvm.MethodName) prog_16_method_4_code (1 : Nat) (Option.some (Jvm.ClassFile.FieldType.object "com/example/yanta/yanta/policy/Effect"))]
set_option maxRecDepth 65536 in
theorem codes_eq : words1.filter isCode = codes1 := rfl
theorem w_codes : ∀ c ∈ words1.filter isCode, c.before args0 about1 = true := by
  rw [codes_eq]
  intro c hc
  simp only [codes1, List.mem_cons, List.not_mem_nil, or_false] at hc
  rcases hc with rfl | rfl
  · exact w_c0
  · exact w_c1
set_option maxRecDepth 65536 in
theorem w_t1 : words1.all (fun c => isCode c || c.before args0 about1) = true := by decide +kernel
theorem w_tables : (allAtoms (Jvm.Cond.code x code maxLocals ret :: tables_1)).before args0 about1 = true := by
  rw [allAtoms_all]
  show words1.all (fun c => c.before args0 about1) = true
  refine all_split ?_ w_codes
  rw [w_t1]
set_option maxRecDepth 65536 in
theorem w_case : (Jvm.Cond.and given_1 narrow_1).before args0 about1 = true := by decide +kernel
theorem w_applies : (headSpec (Jvm.Cond.code x code maxLocals ret :: tables_1) room_1).applies x e0.platform about1 = true :=
  (Spec.applies_iff w_frames).mpr ⟨w_running, w_runnable, w_alone, w_named, w_hears, w_ripe, w_room, w_tables⟩
theorem atStart : AtStart classFile x code maxLocals ret World_1 tables_1 room_1 Calls_1 rest_1 Pre_1 launch0 p0 e0 about1 theMethod args0 below0 :=
  ⟨lists_1, trivial, launch0.admits_env _ _ _, launch0.least_env, fairChoices_fair.cas, fairChoices_fair.clock, w_frames, w_args, w_heap, w_applies, trivial, trivial, w_case⟩
end start1
theorem witness_1 : WitnessClaimed_1 := ⟨start1.p0, start1.e0, start1.about1, start1.theMethod, start1.args0, start1.below0, start1.atStart⟩
end Jvm.Pilot.@@N@@
