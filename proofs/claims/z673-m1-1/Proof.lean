import JvmDerived
import JvmDerived.Pilot.@@N@@Statement
import JvmDerived.Pilot.@@N@@Code
set_option linter.unusedVariables false
set_option linter.unusedSimpArgs false
namespace Jvm.Pilot.@@N@@
open Jvm Jvm.ClassFile Sem Op Lib Jvm.Free Jvm.Stand Jvm.LawKit Jvm.RoadKit Bundle Jvm.Pilot.@@N@@.Jvm.D
/-! 0. the walk's goal, and how a step leads to it -/
def OGoal (p : Program) (e : Env) (below : List Frame) (Φ : Outcome → State → Prop) (T : State) (g : JFrame) : Prop :=
  ∃ s₂ o, Steps p.tables e below (T.setTop g) s₂ ∧ s₂.status = .running ∧ Ended s₂ below o ∧ Φ o s₂
theorem own_by {p : Program} {e : Env} {below : List Frame} {Φ : Outcome → State → Prop} {T T' : State} {g g' : JFrame}
    (st : ∀ t, Steps p.tables e below (T'.setTop g') t → Steps p.tables e below (T.setTop g) t) (G : OGoal p e below Φ T' g') : OGoal p e below Φ T g := by
  obtain ⟨s₂, o, h1, h2⟩ := G
  exact ⟨s₂, o, st _ h1, h2⟩
theorem own_enter {p : Program} {e : Env} {below : List Frame} {Φ : Outcome → State → Prop} {T : State} {g g' : JFrame} (q : g = g') (G : OGoal p e below Φ T g') :
    ∃ s₂ o, Steps p.tables e below (T.setTop g) s₂ ∧ s₂.status = .running ∧ Ended s₂ below o ∧ Φ o s₂ := by subst q; exact G
theorem own_kext {h h' : Heap} (E : Ext h h') : Keep h h' [] := (Keep.refl h []).ext E
theorem own_narR {ty : FieldType} {v : Value} (hty : ty.isReference = true) (h : v.isRef = true) : narrow ty v = v := by
  rcases ref_cases h with rfl | ⟨a, rfl⟩ <;> cases ty <;> first | rfl | (cases hty)
theorem own_fitR {ty : FieldType} {v : Value} (hty : ty.isReference = true) (h : v.isRef = true) : fits ty v = true := by
  rcases ref_cases h with rfl | ⟨a, rfl⟩ <;> cases ty <;> first | rfl | (cases hty)
theorem own_narC (x : Int32) : nar .char (x.toUInt32.toUInt16.toUInt32.toInt32) = x.toUInt32.toUInt16.toUInt32.toInt32 := by
  show (x.toUInt32.toUInt16.toUInt32.toInt32).toUInt32.toUInt16.toUInt32.toInt32 = _
  simp only [UInt32.toUInt32_toInt32, UInt16.toUInt16_toUInt32]
theorem own_narB (x : Int32) : nar .byte (x.toInt8.toInt32) = x.toInt8.toInt32 := by
  show (x.toInt8.toInt32).toInt8.toInt32 = _
  simp
theorem own_fldI {Z : State} {args : Array Value} {t : Term} {a : Addr} {C n d : String} {k : Int32} (ev : t.eval args Z none [] Z = some (.ref a)) (h : (Jvm.Cond.eq (.field t C n d) (.int k)).value args Z none Z [] = some true) : Fld Z Z.heap a C n d (.int k) :=
  Fld.start ((fld_at ev).symm.trans (eqv_i (Term.int_eval k) h))
theorem own_fldJ {Z : State} {args : Array Value} {t : Term} {a : Addr} {C n d : String} {k : Int64} (ev : t.eval args Z none [] Z = some (.ref a)) (h : (Jvm.Cond.eq (.field t C n d) (.long k)).value args Z none Z [] = some true) : Fld Z Z.heap a C n d (.long k) :=
  Fld.start ((fld_at ev).symm.trans (eqv_l (F := .long k) rfl h))
def Glob (Z : State) (w0 : Addr) (w1 : Addr) (w2 : Addr) (w3 : Addr) (w4 : Addr) (w5 : Addr) (w6 : Addr) : Prop := Sta Z Z.heap "com/example/vestledger/vestledger/award/AllocationType" "CUMULATIVE_ROUNDING" "Lcom/example/vestledger/vestledger/award/AllocationType;" (.ref w0) ∧ Sta Z Z.heap "com/example/vestledger/vestledger/award/AllocationType" "CUMULATIVE_ROUND_DOWN" "Lcom/example/vestledger/vestledger/award/AllocationType;" (.ref w1) ∧ Sta Z Z.heap "com/example/vestledger/vestledger/award/AllocationType" "FRONT_LOADED" "Lcom/example/vestledger/vestledger/award/AllocationType;" (.ref w2) ∧ Sta Z Z.heap "com/example/vestledger/vestledger/award/AllocationType" "BACK_LOADED" "Lcom/example/vestledger/vestledger/award/AllocationType;" (.ref w3) ∧ Sta Z Z.heap "com/example/vestledger/vestledger/award/AllocationType" "FRONT_LOADED_TO_SINGLE_TRANCHE" "Lcom/example/vestledger/vestledger/award/AllocationType;" (.ref w4) ∧ Sta Z Z.heap "com/example/vestledger/vestledger/award/AllocationType" "BACK_LOADED_TO_SINGLE_TRANCHE" "Lcom/example/vestledger/vestledger/award/AllocationType;" (.ref w5) ∧ Sta Z Z.heap "com/example/vestledger/vestledger/award/AllocationType" "FRACTIONAL" "Lcom/example/vestledger/vestledger/award/AllocationType;" (.ref w6) ∧ Exa Z Z.heap w0 "com/example/vestledger/vestledger/award/AllocationType" ∧ Exa Z Z.heap w1 "com/example/vestledger/vestledger/award/AllocationType" ∧ Exa Z Z.heap w2 "com/example/vestledger/vestledger/award/AllocationType" ∧ Exa Z Z.heap w3 "com/example/vestledger/vestledger/award/AllocationType" ∧ Exa Z Z.heap w4 "com/example/vestledger/vestledger/award/AllocationType" ∧ Exa Z Z.heap w5 "com/example/vestledger/vestledger/award/AllocationType" ∧ Exa Z Z.heap w6 "com/example/vestledger/vestledger/award/AllocationType" ∧ Fld Z Z.heap w0 "java/lang/Enum" "ordinal" "I" (.int (0 : Int32)) ∧ Fld Z Z.heap w1 "java/lang/Enum" "ordinal" "I" (.int (1 : Int32)) ∧ Fld Z Z.heap w2 "java/lang/Enum" "ordinal" "I" (.int (2 : Int32)) ∧ Fld Z Z.heap w3 "java/lang/Enum" "ordinal" "I" (.int (3 : Int32)) ∧ Fld Z Z.heap w4 "java/lang/Enum" "ordinal" "I" (.int (4 : Int32)) ∧ Fld Z Z.heap w5 "java/lang/Enum" "ordinal" "I" (.int (5 : Int32)) ∧ Fld Z Z.heap w6 "java/lang/Enum" "ordinal" "I" (.int (6 : Int32))
theorem own_mod (k d : Int32) (D : Int) (hd : d.toInt = D) (h0 : 0 < D) : 0 ≤ ((k &&& (2147483647 : Int32)) % d).toInt ∧ ((k &&& (2147483647 : Int32)) % d).toInt < D := by
  have h1 := c_mask k (2147483647 : Int32) 31 (by decide) (by decide)
  have h2 := c_irem (k &&& (2147483647 : Int32)) d D hd
  have h3 : 0 ≤ (k &&& (2147483647 : Int32)).toInt := by rw [h1]; exact Int.emod_nonneg _ (by decide)
  rw [h2.1 h3]
  exact ⟨Int.emod_nonneg _ (by omega), Int.emod_lt_of_pos _ h0⟩
theorem own_d1_0 : decode method_2_code 0 = .ok (.iload_n 0, 1) := by decide +kernel
theorem own_d1_1 : decode method_2_code 1 = .ok (.ifCond .ne 7, 3) := by decide +kernel
theorem own_d1_4 : decode method_2_code 4 = .ok (.getstatic 7, 3) := by decide +kernel
theorem own_d1_7 : decode method_2_code 7 = .ok (.areturn, 1) := by decide +kernel
theorem own_d1_8 : decode method_2_code 8 = .ok (.iload_n 0, 1) := by decide +kernel
theorem own_d1_9 : decode method_2_code 9 = .ok (.iconst 1, 1) := by decide +kernel
theorem own_d1_10 : decode method_2_code 10 = .ok (.if_icmp .ne 7, 3) := by decide +kernel
theorem own_d1_13 : decode method_2_code 13 = .ok (.getstatic 13, 3) := by decide +kernel
theorem own_d1_16 : decode method_2_code 16 = .ok (.areturn, 1) := by decide +kernel
theorem own_d1_17 : decode method_2_code 17 = .ok (.iload_n 0, 1) := by decide +kernel
theorem own_d1_18 : decode method_2_code 18 = .ok (.iconst 2, 1) := by decide +kernel
theorem own_d1_19 : decode method_2_code 19 = .ok (.if_icmp .ne 7, 3) := by decide +kernel
theorem own_d1_22 : decode method_2_code 22 = .ok (.getstatic 16, 3) := by decide +kernel
theorem own_d1_25 : decode method_2_code 25 = .ok (.areturn, 1) := by decide +kernel
theorem own_d1_26 : decode method_2_code 26 = .ok (.iload_n 0, 1) := by decide +kernel
theorem own_d1_27 : decode method_2_code 27 = .ok (.iconst 3, 1) := by decide +kernel
theorem own_d1_28 : decode method_2_code 28 = .ok (.if_icmp .ne 7, 3) := by decide +kernel
theorem own_d1_31 : decode method_2_code 31 = .ok (.getstatic 19, 3) := by decide +kernel
theorem own_d1_34 : decode method_2_code 34 = .ok (.areturn, 1) := by decide +kernel
theorem own_d1_35 : decode method_2_code 35 = .ok (.iload_n 0, 1) := by decide +kernel
theorem own_d1_36 : decode method_2_code 36 = .ok (.iconst 4, 1) := by decide +kernel
theorem own_d1_37 : decode method_2_code 37 = .ok (.if_icmp .ne 7, 3) := by decide +kernel
theorem own_d1_40 : decode method_2_code 40 = .ok (.getstatic 22, 3) := by decide +kernel
theorem own_d1_43 : decode method_2_code 43 = .ok (.areturn, 1) := by decide +kernel
theorem own_d1_44 : decode method_2_code 44 = .ok (.iload_n 0, 1) := by decide +kernel
theorem own_d1_45 : decode method_2_code 45 = .ok (.iconst 5, 1) := by decide +kernel
theorem own_d1_46 : decode method_2_code 46 = .ok (.if_icmp .ne 7, 3) := by decide +kernel
theorem own_d1_49 : decode method_2_code 49 = .ok (.getstatic 25, 3) := by decide +kernel
theorem own_d1_52 : decode method_2_code 52 = .ok (.areturn, 1) := by decide +kernel
theorem own_d1_53 : decode method_2_code 53 = .ok (.getstatic 28, 3) := by decide +kernel
theorem own_d1_56 : decode method_2_code 56 = .ok (.areturn, 1) := by decide +kernel
theorem own_pn_com_example_vestledger_vestledger_award_AllocationTypeScalePinLaw : plainName "com/example/vestledger/vestledger/award/AllocationTypeScalePinLaw" = true := by first | (simp [plainName, overriddenIn]; done) | decide +kernel
theorem own_ef_rmP (m : MethodId) (x0 : Int32) : entryFrame m #[(.int x0)] 1 = mkF m 0 #[.val (.int x0)] [] := by first | (simp [entryFrame, mkF, argsToLocals, Value.category]; done) | rfl
def Q_rmP (Z : State) (w0 : Addr) (w1 : Addr) (w2 : Addr) (w3 : Addr) (w4 : Addr) (w5 : Addr) (w6 : Addr) (i : Int32) (h0 : Heap) (n0 : Nat) (v : Option Value) (h : Heap) (L : List Loc) : Prop := ∃ t : Addr, v = some (.ref t) ∧ Fr n0 L ∧ h = h0 ∧ Exa Z h t "com/example/vestledger/vestledger/award/AllocationType" ∧ (t = w6 ↔ i = (6 : Int32))
set_option maxRecDepth 65536 in
set_option maxHeartbeats 40000000 in
theorem rmP (l : Launch) (Z : State) (a0 : Array Value) (hw : ∀ d ∈ tables_1, d.before a0 Z = true) (ws : List Jvm.Cond) (w0 : Addr) (w1 : Addr) (w2 : Addr) (w3 : Addr) (w4 : Addr) (w5 : Addr) (w6 : Addr) (GS : Glob Z w0 w1 w2 w3 w4 w5 w6) (i : Int32) (h0 : Heap) (n0 : Nat) (Z0 : n0 ≤ h0.size) (O0 : Old Z n0 h0) (hi : 0 ≤ i.toInt ∧ i.toInt < 7) :
    MetFree l (⟨"com/example/vestledger/vestledger/award/AllocationTypeScalePinLaw", "pick", "(I)Lcom/example/vestledger/vestledger/award/AllocationType;"⟩ : MethodName) (head1 (Jvm.Cond.code (⟨"com/example/vestledger/vestledger/award/AllocationTypeScalePinLaw", "pick", "(I)Lcom/example/vestledger/vestledger/award/AllocationType;"⟩ : MethodName) method_2_code 1 (some (.object "com/example/vestledger/vestledger/award/AllocationType")) :: ws) ({ frames := 0, cells := 0, slots := 0, locals := 0 } : Room)) (fun a U => a = #[(.int i)] ∧ Z.Warmed39 U.vm ∧ U.heap = h0) (fun _ _ _ _ _ => True) (fun _ U o U' => ∃ v L, o = .returned v ∧ Q_rmP Z w0 w1 w2 w3 w4 w5 w6 i h0 n0 v U'.heap L ∧ FrameEnd U o U' L ({ frames := 0, cells := 0, slots := 0, locals := 0 } : Room).cells ({ frames := 0, cells := 0, slots := 0, locals := 0 } : Room).slots) := by
  refine MetFree.of_bodySF (plainFor_of_name own_pn_com_example_vestledger_vestledger_award_AllocationTypeScalePinLaw) hisR ?_
  intro p e s m args below meth c s₁ Bd hml0 hP hK
  obtain ⟨rfl, hZ, hh⟩ := hP
  have hx := Bd.exec
  have hby := Bd.bytes
  have hml : c.maxLocals = 1 := hml0
  have hown : s.vm.findClass "com/example/vestledger/vestledger/award/AllocationTypeScalePinLaw" = some m.cls := findClass_of_methodNamed Bd.named
  have hnm := (name_of_methodNamed Bd.named Bd.method).1
  have X0 : Stand p l e ({ frames := 0, cells := 0, slots := 0, locals := 0 } : Room) s m #[(.int i)] below meth c s₁ [] 0 0 := Stand.of_body Bd
  have e0 : s₁.heap = h0 := by rw [← hh, Bd.state]; rfl
  have N0 := Fr.nil n0
  have hn0 : Z.heap.size = n0 := O0.1
  have KT0 : Keep h0 h0 [] := Keep.refl _ _
  refine own_enter (Φ := fun o U' => ∃ v L, o = .returned v ∧ Q_rmP Z w0 w1 w2 w3 w4 w5 w6 i h0 n0 v U'.heap L ∧ FrameEnd s o U' L ({ frames := 0, cells := 0, slots := 0, locals := 0 } : Room).cells ({ frames := 0, cells := 0, slots := 0, locals := 0 } : Room).slots) (own_ef_rmP m i) ?_
  have ne1 : w0 ≠ w6 := GS.2.2.2.2.2.2.2.2.2.2.2.2.2.2.1.ne GS.2.2.2.2.2.2.2.2.2.2.2.2.2.2.2.2.2.2.2.2 (by simp)
  have ne2 : w1 ≠ w6 := GS.2.2.2.2.2.2.2.2.2.2.2.2.2.2.2.1.ne GS.2.2.2.2.2.2.2.2.2.2.2.2.2.2.2.2.2.2.2.2 (by simp)
  have ne3 : w2 ≠ w6 := GS.2.2.2.2.2.2.2.2.2.2.2.2.2.2.2.2.1.ne GS.2.2.2.2.2.2.2.2.2.2.2.2.2.2.2.2.2.2.2.2 (by simp)
  have ne4 : w3 ≠ w6 := GS.2.2.2.2.2.2.2.2.2.2.2.2.2.2.2.2.2.1.ne GS.2.2.2.2.2.2.2.2.2.2.2.2.2.2.2.2.2.2.2.2 (by simp)
  have ne5 : w4 ≠ w6 := GS.2.2.2.2.2.2.2.2.2.2.2.2.2.2.2.2.2.2.1.ne GS.2.2.2.2.2.2.2.2.2.2.2.2.2.2.2.2.2.2.2.2 (by simp)
  have ne6 : w5 ≠ w6 := GS.2.2.2.2.2.2.2.2.2.2.2.2.2.2.2.2.2.2.2.1.ne GS.2.2.2.2.2.2.2.2.2.2.2.2.2.2.2.2.2.2.2.2 (by simp)
  refine own_by (T' := s₁) (g' := (mkF m 1 #[.val (.int i)] [(.int i)])) (fun _ k => XS.iloadN X0.here hx rfl (hb hby own_d1_0) rfl k) ?_
  by_cases hc7 : i = (0 : Int32)
  · refine own_by (T' := s₁) (g' := (mkF m 4 #[.val (.int i)] [])) (fun _ k => XS.ifNo X0.here hx rfl (hb hby own_d1_1) rfl (XT.i0_ne_f hc7) k) ?_
    have f8 := GS.1.ext O0.2
    obtain ⟨T9, X9, e9, st9⟩ := getS2 X0 hx hZ hown (host := "") (Or.inl (hw _ (List.mem_of_getElem? (i := 5) rfl))) Via.refl e0 f8 (g := (mkF m 4 #[.val (.int i)] [])) rfl (hb hby own_d1_4)
    refine own_by (T' := T9) (g' := (mkF m 7 #[.val (.int i)] [(.ref w0)])) st9 ?_
    have f10 := GS.2.2.2.2.2.2.2.1.ext O0.2
    obtain ⟨fs11, hr11, hrun11, hended11, hW11, hsame11⟩ := X9.leave (v := some (.ref w0)) (fun h => by rw [Bd.returns] at h; cases h)
    refine ⟨_, _, retOut X9 hx (t := (.object "com/example/vestledger/vestledger/award/AllocationType")) Bd.returns rfl (Or.inr (Or.inr (Or.inr (Or.inr ⟨rfl, rfl, rfl⟩)))) (hb hby own_d1_7) hr11, hrun11, hended11, _, _, rfl, ?_, ⟨_, rfl⟩, hW11, hsame11.mono (by decide) (by decide)⟩
    show Q_rmP Z w0 w1 w2 w3 w4 w5 w6 i h0 n0 _ T9.heap _
    rw [e9]
    exact ⟨w0, rfl, N0, rfl, f10, (⟨fun q => absurd q ne1, fun q => absurd (hc7.symm.trans q) (by decide)⟩)⟩
  · refine own_by (T' := s₁) (g' := (mkF m 8 #[.val (.int i)] [])) (fun _ k => XS.ifYes X0.here hx rfl (pc0 := 1) (pc' := 8) rfl (hb hby own_d1_1) rfl (XT.i0_ne_t hc7) (by decide) (by decide) k) ?_
    refine own_by (T' := s₁) (g' := (mkF m 9 #[.val (.int i)] [(.int i)])) (fun _ k => XS.iloadN X0.here hx rfl (hb hby own_d1_8) rfl k) ?_
    refine own_by (T' := s₁) (g' := (mkF m 10 #[.val (.int i)] [(.int (1 : Int32)), (.int i)])) (fun _ k => XS.iconst X0.here hx rfl (hb hby own_d1_9) k) ?_
    by_cases hc12 : i = (1 : Int32)
    · refine own_by (T' := s₁) (g' := (mkF m 13 #[.val (.int i)] [])) (fun _ k => XS.icmpNo X0.here hx rfl (hb hby own_d1_10) rfl (XT.ii_ne_f hc12) k) ?_
      have f13 := GS.2.1.ext O0.2
      obtain ⟨T14, X14, e14, st14⟩ := getS2 X0 hx hZ hown (host := "") (Or.inl (hw _ (List.mem_of_getElem? (i := 27) rfl))) Via.refl e0 f13 (g := (mkF m 13 #[.val (.int i)] [])) rfl (hb hby own_d1_13)
      refine own_by (T' := T14) (g' := (mkF m 16 #[.val (.int i)] [(.ref w1)])) st14 ?_
      have f15 := GS.2.2.2.2.2.2.2.2.1.ext O0.2
      obtain ⟨fs16, hr16, hrun16, hended16, hW16, hsame16⟩ := X14.leave (v := some (.ref w1)) (fun h => by rw [Bd.returns] at h; cases h)
      refine ⟨_, _, retOut X14 hx (t := (.object "com/example/vestledger/vestledger/award/AllocationType")) Bd.returns rfl (Or.inr (Or.inr (Or.inr (Or.inr ⟨rfl, rfl, rfl⟩)))) (hb hby own_d1_16) hr16, hrun16, hended16, _, _, rfl, ?_, ⟨_, rfl⟩, hW16, hsame16.mono (by decide) (by decide)⟩
      show Q_rmP Z w0 w1 w2 w3 w4 w5 w6 i h0 n0 _ T14.heap _
      rw [e14]
      exact ⟨w1, rfl, N0, rfl, f15, (⟨fun q => absurd q ne2, fun q => absurd (hc12.symm.trans q) (by decide)⟩)⟩
    · refine own_by (T' := s₁) (g' := (mkF m 17 #[.val (.int i)] [])) (fun _ k => XS.icmpYes X0.here hx rfl (pc0 := 10) (pc' := 17) rfl (hb hby own_d1_10) rfl (XT.ii_ne_t hc12) (by decide) (by decide) k) ?_
      refine own_by (T' := s₁) (g' := (mkF m 18 #[.val (.int i)] [(.int i)])) (fun _ k => XS.iloadN X0.here hx rfl (hb hby own_d1_17) rfl k) ?_
      refine own_by (T' := s₁) (g' := (mkF m 19 #[.val (.int i)] [(.int (2 : Int32)), (.int i)])) (fun _ k => XS.iconst X0.here hx rfl (hb hby own_d1_18) k) ?_
      by_cases hc17 : i = (2 : Int32)
      · refine own_by (T' := s₁) (g' := (mkF m 22 #[.val (.int i)] [])) (fun _ k => XS.icmpNo X0.here hx rfl (hb hby own_d1_19) rfl (XT.ii_ne_f hc17) k) ?_
        have f18 := GS.2.2.1.ext O0.2
        obtain ⟨T19, X19, e19, st19⟩ := getS2 X0 hx hZ hown (host := "") (Or.inl (hw _ (List.mem_of_getElem? (i := 25) rfl))) Via.refl e0 f18 (g := (mkF m 22 #[.val (.int i)] [])) rfl (hb hby own_d1_22)
        refine own_by (T' := T19) (g' := (mkF m 25 #[.val (.int i)] [(.ref w2)])) st19 ?_
        have f20 := GS.2.2.2.2.2.2.2.2.2.1.ext O0.2
        obtain ⟨fs21, hr21, hrun21, hended21, hW21, hsame21⟩ := X19.leave (v := some (.ref w2)) (fun h => by rw [Bd.returns] at h; cases h)
        refine ⟨_, _, retOut X19 hx (t := (.object "com/example/vestledger/vestledger/award/AllocationType")) Bd.returns rfl (Or.inr (Or.inr (Or.inr (Or.inr ⟨rfl, rfl, rfl⟩)))) (hb hby own_d1_25) hr21, hrun21, hended21, _, _, rfl, ?_, ⟨_, rfl⟩, hW21, hsame21.mono (by decide) (by decide)⟩
        show Q_rmP Z w0 w1 w2 w3 w4 w5 w6 i h0 n0 _ T19.heap _
        rw [e19]
        exact ⟨w2, rfl, N0, rfl, f20, (⟨fun q => absurd q ne3, fun q => absurd (hc17.symm.trans q) (by decide)⟩)⟩
      · refine own_by (T' := s₁) (g' := (mkF m 26 #[.val (.int i)] [])) (fun _ k => XS.icmpYes X0.here hx rfl (pc0 := 19) (pc' := 26) rfl (hb hby own_d1_19) rfl (XT.ii_ne_t hc17) (by decide) (by decide) k) ?_
        refine own_by (T' := s₁) (g' := (mkF m 27 #[.val (.int i)] [(.int i)])) (fun _ k => XS.iloadN X0.here hx rfl (hb hby own_d1_26) rfl k) ?_
        refine own_by (T' := s₁) (g' := (mkF m 28 #[.val (.int i)] [(.int (3 : Int32)), (.int i)])) (fun _ k => XS.iconst X0.here hx rfl (hb hby own_d1_27) k) ?_
        by_cases hc22 : i = (3 : Int32)
        · refine own_by (T' := s₁) (g' := (mkF m 31 #[.val (.int i)] [])) (fun _ k => XS.icmpNo X0.here hx rfl (hb hby own_d1_28) rfl (XT.ii_ne_f hc22) k) ?_
          have f23 := GS.2.2.2.1.ext O0.2
          obtain ⟨T24, X24, e24, st24⟩ := getS2 X0 hx hZ hown (host := "") (Or.inl (hw _ (List.mem_of_getElem? (i := 18) rfl))) Via.refl e0 f23 (g := (mkF m 31 #[.val (.int i)] [])) rfl (hb hby own_d1_31)
          refine own_by (T' := T24) (g' := (mkF m 34 #[.val (.int i)] [(.ref w3)])) st24 ?_
          have f25 := GS.2.2.2.2.2.2.2.2.2.2.1.ext O0.2
          obtain ⟨fs26, hr26, hrun26, hended26, hW26, hsame26⟩ := X24.leave (v := some (.ref w3)) (fun h => by rw [Bd.returns] at h; cases h)
          refine ⟨_, _, retOut X24 hx (t := (.object "com/example/vestledger/vestledger/award/AllocationType")) Bd.returns rfl (Or.inr (Or.inr (Or.inr (Or.inr ⟨rfl, rfl, rfl⟩)))) (hb hby own_d1_34) hr26, hrun26, hended26, _, _, rfl, ?_, ⟨_, rfl⟩, hW26, hsame26.mono (by decide) (by decide)⟩
          show Q_rmP Z w0 w1 w2 w3 w4 w5 w6 i h0 n0 _ T24.heap _
          rw [e24]
          exact ⟨w3, rfl, N0, rfl, f25, (⟨fun q => absurd q ne4, fun q => absurd (hc22.symm.trans q) (by decide)⟩)⟩
        · refine own_by (T' := s₁) (g' := (mkF m 35 #[.val (.int i)] [])) (fun _ k => XS.icmpYes X0.here hx rfl (pc0 := 28) (pc' := 35) rfl (hb hby own_d1_28) rfl (XT.ii_ne_t hc22) (by decide) (by decide) k) ?_
          refine own_by (T' := s₁) (g' := (mkF m 36 #[.val (.int i)] [(.int i)])) (fun _ k => XS.iloadN X0.here hx rfl (hb hby own_d1_35) rfl k) ?_
          refine own_by (T' := s₁) (g' := (mkF m 37 #[.val (.int i)] [(.int (4 : Int32)), (.int i)])) (fun _ k => XS.iconst X0.here hx rfl (hb hby own_d1_36) k) ?_
          by_cases hc27 : i = (4 : Int32)
          · refine own_by (T' := s₁) (g' := (mkF m 40 #[.val (.int i)] [])) (fun _ k => XS.icmpNo X0.here hx rfl (hb hby own_d1_37) rfl (XT.ii_ne_f hc27) k) ?_
            have f28 := GS.2.2.2.2.1.ext O0.2
            obtain ⟨T29, X29, e29, st29⟩ := getS2 X0 hx hZ hown (host := "") (Or.inl (hw _ (List.mem_of_getElem? (i := 23) rfl))) Via.refl e0 f28 (g := (mkF m 40 #[.val (.int i)] [])) rfl (hb hby own_d1_40)
            refine own_by (T' := T29) (g' := (mkF m 43 #[.val (.int i)] [(.ref w4)])) st29 ?_
            have f30 := GS.2.2.2.2.2.2.2.2.2.2.2.1.ext O0.2
            obtain ⟨fs31, hr31, hrun31, hended31, hW31, hsame31⟩ := X29.leave (v := some (.ref w4)) (fun h => by rw [Bd.returns] at h; cases h)
            refine ⟨_, _, retOut X29 hx (t := (.object "com/example/vestledger/vestledger/award/AllocationType")) Bd.returns rfl (Or.inr (Or.inr (Or.inr (Or.inr ⟨rfl, rfl, rfl⟩)))) (hb hby own_d1_43) hr31, hrun31, hended31, _, _, rfl, ?_, ⟨_, rfl⟩, hW31, hsame31.mono (by decide) (by decide)⟩
            show Q_rmP Z w0 w1 w2 w3 w4 w5 w6 i h0 n0 _ T29.heap _
            rw [e29]
            exact ⟨w4, rfl, N0, rfl, f30, (⟨fun q => absurd q ne5, fun q => absurd (hc27.symm.trans q) (by decide)⟩)⟩
          · refine own_by (T' := s₁) (g' := (mkF m 44 #[.val (.int i)] [])) (fun _ k => XS.icmpYes X0.here hx rfl (pc0 := 37) (pc' := 44) rfl (hb hby own_d1_37) rfl (XT.ii_ne_t hc27) (by decide) (by decide) k) ?_
            refine own_by (T' := s₁) (g' := (mkF m 45 #[.val (.int i)] [(.int i)])) (fun _ k => XS.iloadN X0.here hx rfl (hb hby own_d1_44) rfl k) ?_
            refine own_by (T' := s₁) (g' := (mkF m 46 #[.val (.int i)] [(.int (5 : Int32)), (.int i)])) (fun _ k => XS.iconst X0.here hx rfl (hb hby own_d1_45) k) ?_
            by_cases hc32 : i = (5 : Int32)
            · refine own_by (T' := s₁) (g' := (mkF m 49 #[.val (.int i)] [])) (fun _ k => XS.icmpNo X0.here hx rfl (hb hby own_d1_46) rfl (XT.ii_ne_f hc32) k) ?_
              have f33 := GS.2.2.2.2.2.1.ext O0.2
              obtain ⟨T34, X34, e34, st34⟩ := getS2 X0 hx hZ hown (host := "") (Or.inl (hw _ (List.mem_of_getElem? (i := 20) rfl))) Via.refl e0 f33 (g := (mkF m 49 #[.val (.int i)] [])) rfl (hb hby own_d1_49)
              refine own_by (T' := T34) (g' := (mkF m 52 #[.val (.int i)] [(.ref w5)])) st34 ?_
              have f35 := GS.2.2.2.2.2.2.2.2.2.2.2.2.1.ext O0.2
              obtain ⟨fs36, hr36, hrun36, hended36, hW36, hsame36⟩ := X34.leave (v := some (.ref w5)) (fun h => by rw [Bd.returns] at h; cases h)
              refine ⟨_, _, retOut X34 hx (t := (.object "com/example/vestledger/vestledger/award/AllocationType")) Bd.returns rfl (Or.inr (Or.inr (Or.inr (Or.inr ⟨rfl, rfl, rfl⟩)))) (hb hby own_d1_52) hr36, hrun36, hended36, _, _, rfl, ?_, ⟨_, rfl⟩, hW36, hsame36.mono (by decide) (by decide)⟩
              show Q_rmP Z w0 w1 w2 w3 w4 w5 w6 i h0 n0 _ T34.heap _
              rw [e34]
              exact ⟨w5, rfl, N0, rfl, f35, (⟨fun q => absurd q ne6, fun q => absurd (hc32.symm.trans q) (by decide)⟩)⟩
            · refine own_by (T' := s₁) (g' := (mkF m 53 #[.val (.int i)] [])) (fun _ k => XS.icmpYes X0.here hx rfl (pc0 := 46) (pc' := 53) rfl (hb hby own_d1_46) rfl (XT.ii_ne_t hc32) (by decide) (by decide) k) ?_
              have f37 := GS.2.2.2.2.2.2.1.ext O0.2
              obtain ⟨T38, X38, e38, st38⟩ := getS2 X0 hx hZ hown (host := "") (Or.inl (hw _ (List.mem_of_getElem? (i := 22) rfl))) Via.refl e0 f37 (g := (mkF m 53 #[.val (.int i)] [])) rfl (hb hby own_d1_53)
              refine own_by (T' := T38) (g' := (mkF m 56 #[.val (.int i)] [(.ref w6)])) st38 ?_
              have f39 := GS.2.2.2.2.2.2.2.2.2.2.2.2.2.1.ext O0.2
              obtain ⟨fs40, hr40, hrun40, hended40, hW40, hsame40⟩ := X38.leave (v := some (.ref w6)) (fun h => by rw [Bd.returns] at h; cases h)
              refine ⟨_, _, retOut X38 hx (t := (.object "com/example/vestledger/vestledger/award/AllocationType")) Bd.returns rfl (Or.inr (Or.inr (Or.inr (Or.inr ⟨rfl, rfl, rfl⟩)))) (hb hby own_d1_56) hr40, hrun40, hended40, _, _, rfl, ?_, ⟨_, rfl⟩, hW40, hsame40.mono (by decide) (by decide)⟩
              show Q_rmP Z w0 w1 w2 w3 w4 w5 w6 i h0 n0 _ T38.heap _
              rw [e38]
              exact ⟨w6, rfl, N0, rfl, f39, (by
                                refine ⟨fun _ => ?_, fun _ => rfl⟩
                                simp only [← Int32.toInt_inj] at hc7 hc12 hc17 hc22 hc27 hc32 ⊢
                                have e0 : (0 : Int32).toInt = 0 := rfl
                                have e1 : (1 : Int32).toInt = 1 := rfl
                                have e2 : (2 : Int32).toInt = 2 := rfl
                                have e3 : (3 : Int32).toInt = 3 := rfl
                                have e4 : (4 : Int32).toInt = 4 := rfl
                                have e5 : (5 : Int32).toInt = 5 := rfl
                                have e6 : (6 : Int32).toInt = 6 := rfl
                                omega)⟩
theorem own_d2_0 : decode prog_1_method_4_code 0 = .ok (.aload_n 0, 1) := by decide +kernel
theorem own_d2_1 : decode prog_1_method_4_code 1 = .ok (.getstatic 22, 3) := by decide +kernel
theorem own_d2_4 : decode prog_1_method_4_code 4 = .ok (.if_acmp .ne 8, 3) := by decide +kernel
theorem own_d2_7 : decode prog_1_method_4_code 7 = .ok (.bipush 6, 2) := by decide +kernel
theorem own_d2_9 : decode prog_1_method_4_code 9 = .ok (.goto 4, 3) := by decide +kernel
theorem own_d2_12 : decode prog_1_method_4_code 12 = .ok (.iconst 0, 1) := by decide +kernel
theorem own_d2_13 : decode prog_1_method_4_code 13 = .ok (.ireturn, 1) := by decide +kernel
theorem own_pn_com_example_vestledger_vestledger_award_AllocationType : plainName "com/example/vestledger/vestledger/award/AllocationType" = true := by first | (simp [plainName, overriddenIn]; done) | decide +kernel
theorem own_ef_rmS (m : MethodId) (x0 : Addr) : entryFrame m #[(.ref x0)] 1 = mkF m 0 #[.val (.ref x0)] [] := by first | (simp [entryFrame, mkF, argsToLocals, Value.category]; done) | rfl
def Q_rmS (Z : State) (w0 : Addr) (w1 : Addr) (w2 : Addr) (w3 : Addr) (w4 : Addr) (w5 : Addr) (w6 : Addr) (t : Addr) (h0 : Heap) (n0 : Nat) (v : Option Value) (h : Heap) (L : List Loc) : Prop := v = some (.int (if t = w6 then (6 : Int32) else (0 : Int32))) ∧ Fr n0 L ∧ h = h0
set_option maxRecDepth 65536 in
set_option maxHeartbeats 40000000 in
theorem rmS (l : Launch) (Z : State) (a0 : Array Value) (hw : ∀ d ∈ tables_1, d.before a0 Z = true) (ws : List Jvm.Cond) (w0 : Addr) (w1 : Addr) (w2 : Addr) (w3 : Addr) (w4 : Addr) (w5 : Addr) (w6 : Addr) (GS : Glob Z w0 w1 w2 w3 w4 w5 w6) (t : Addr) (h0 : Heap) (n0 : Nat) (Z0 : n0 ≤ h0.size) (O0 : Old Z n0 h0) :
    MetFree l (⟨"com/example/vestledger/vestledger/award/AllocationType", "scale", "()I"⟩ : MethodName) (head1 (Jvm.Cond.code (⟨"com/example/vestledger/vestledger/award/AllocationType", "scale", "()I"⟩ : MethodName) prog_1_method_4_code 1 (some .int) :: ws) ({ frames := 0, cells := 0, slots := 0, locals := 0 } : Room)) (fun a U => a = #[(.ref t)] ∧ Z.Warmed39 U.vm ∧ U.heap = h0) (fun _ _ _ _ _ => True) (fun _ U o U' => ∃ v L, o = .returned v ∧ Q_rmS Z w0 w1 w2 w3 w4 w5 w6 t h0 n0 v U'.heap L ∧ FrameEnd U o U' L ({ frames := 0, cells := 0, slots := 0, locals := 0 } : Room).cells ({ frames := 0, cells := 0, slots := 0, locals := 0 } : Room).slots) := by
  refine MetFree.of_bodySF (plainFor_of_name own_pn_com_example_vestledger_vestledger_award_AllocationType) hisR ?_
  intro p e s m args below meth c s₁ Bd hml0 hP hK
  obtain ⟨rfl, hZ, hh⟩ := hP
  have hx := Bd.exec
  have hby := Bd.bytes
  have hml : c.maxLocals = 1 := hml0
  have hown : s.vm.findClass "com/example/vestledger/vestledger/award/AllocationType" = some m.cls := findClass_of_methodNamed Bd.named
  have hnm := (name_of_methodNamed Bd.named Bd.method).1
  have X0 : Stand p l e ({ frames := 0, cells := 0, slots := 0, locals := 0 } : Room) s m #[(.ref t)] below meth c s₁ [] 0 0 := Stand.of_body Bd
  have e0 : s₁.heap = h0 := by rw [← hh, Bd.state]; rfl
  have N0 := Fr.nil n0
  have hn0 : Z.heap.size = n0 := O0.1
  have KT0 : Keep h0 h0 [] := Keep.refl _ _
  refine own_enter (Φ := fun o U' => ∃ v L, o = .returned v ∧ Q_rmS Z w0 w1 w2 w3 w4 w5 w6 t h0 n0 v U'.heap L ∧ FrameEnd s o U' L ({ frames := 0, cells := 0, slots := 0, locals := 0 } : Room).cells ({ frames := 0, cells := 0, slots := 0, locals := 0 } : Room).slots) (own_ef_rmS m t) ?_
  refine own_by (T' := s₁) (g' := (mkF m 1 #[.val (.ref t)] [(.ref t)])) (fun _ k => XS.aloadN X0.here hx rfl (hb hby own_d2_0) rfl rfl k) ?_
  have f1 := GS.2.2.2.2.2.2.1.ext O0.2
  obtain ⟨T2, X2, e2, st2⟩ := getS2 X0 hx hZ hown (host := "") (Or.inl (hw _ (List.mem_of_getElem? (i := 13) rfl))) Via.refl e0 f1 (g := (mkF m 1 #[.val (.ref t)] [(.ref t)])) rfl (hb hby own_d2_1)
  refine own_by (T' := T2) (g' := (mkF m 4 #[.val (.ref t)] [(.ref w6), (.ref t)])) st2 ?_
  by_cases hc3 : t = w6
  · refine own_by (T' := T2) (g' := (mkF m 7 #[.val (.ref t)] [])) (fun _ k => Jvm.RoadKit.acmp (g := (mkF m 4 #[.val (.ref t)] [(.ref w6), (.ref t)])) X2 hx rfl rfl rfl (pc0 := 4) (pc' := 7) (same := true) rfl (hb hby own_d2_4) rfl (decide_eq_true (congrArg Value.ref hc3)) (by decide) (by decide) k) ?_
    refine own_by (T' := T2) (g' := (mkF m 9 #[.val (.ref t)] [(.int (6 : Int32))])) (fun _ k => XS.bipush X2.here hx rfl (hb hby own_d2_7) k) ?_
    refine own_by (T' := T2) (g' := (mkF m 13 #[.val (.ref t)] [(.int (6 : Int32))])) (fun _ k => XS.goto X2.here hx rfl (pc0 := 9) (pc' := 13) rfl (hb hby own_d2_9) (by decide) (by decide) k) ?_
    have hr4 : (6 : Int32) = (if t = w6 then (6 : Int32) else (0 : Int32)) := by simp [hc3]
    obtain ⟨fs5, hr5, hrun5, hended5, hW5, hsame5⟩ := X2.leave (v := some (.int (6 : Int32))) (fun h => by rw [Bd.returns] at h; cases h)
    refine ⟨_, _, retOut X2 hx (t := .int) Bd.returns rfl (Or.inl ⟨rfl, Or.inl rfl, _, rfl⟩) (hb hby own_d2_13) hr5, hrun5, hended5, _, _, rfl, ?_, ⟨_, rfl⟩, hW5, hsame5.mono (by decide) (by decide)⟩
    show Q_rmS Z w0 w1 w2 w3 w4 w5 w6 t h0 n0 _ T2.heap _
    exact ⟨(congrArg (fun z => some (Value.int z)) hr4), N0, e2⟩
  · refine own_by (T' := T2) (g' := (mkF m 12 #[.val (.ref t)] [])) (fun _ k => Jvm.RoadKit.acmp (g := (mkF m 4 #[.val (.ref t)] [(.ref w6), (.ref t)])) X2 hx rfl rfl rfl (pc0 := 4) (pc' := 12) (same := false) rfl (hb hby own_d2_4) rfl (decide_eq_false fun q => hc3 (Value.ref.inj q)) (by decide) (by decide) k) ?_
    refine own_by (T' := T2) (g' := (mkF m 13 #[.val (.ref t)] [(.int (0 : Int32))])) (fun _ k => XS.iconst X2.here hx rfl (hb hby own_d2_12) k) ?_
    have hr6 : (0 : Int32) = (if t = w6 then (6 : Int32) else (0 : Int32)) := by simp [hc3]
    obtain ⟨fs7, hr7, hrun7, hended7, hW7, hsame7⟩ := X2.leave (v := some (.int (0 : Int32))) (fun h => by rw [Bd.returns] at h; cases h)
    refine ⟨_, _, retOut X2 hx (t := .int) Bd.returns rfl (Or.inl ⟨rfl, Or.inl rfl, _, rfl⟩) (hb hby own_d2_13) hr7, hrun7, hended7, _, _, rfl, ?_, ⟨_, rfl⟩, hW7, hsame7.mono (by decide) (by decide)⟩
    show Q_rmS Z w0 w1 w2 w3 w4 w5 w6 t h0 n0 _ T2.heap _
    exact ⟨(congrArg (fun z => some (Value.int z)) hr6), N0, e2⟩
theorem own_d3_0 : decode method_3_code 0 = .ok (.iload_n 0, 1) := by decide +kernel
theorem own_d3_1 : decode method_3_code 1 = .ok (.bipush 6, 2) := by decide +kernel
theorem own_d3_3 : decode method_3_code 3 = .ok (.if_icmp .ne 6, 3) := by decide +kernel
theorem own_d3_6 : decode method_3_code 6 = .ok (.bipush 6, 2) := by decide +kernel
theorem own_d3_8 : decode method_3_code 8 = .ok (.ireturn, 1) := by decide +kernel
theorem own_d3_9 : decode method_3_code 9 = .ok (.iconst 0, 1) := by decide +kernel
theorem own_d3_10 : decode method_3_code 10 = .ok (.ireturn, 1) := by decide +kernel
theorem own_ef_rmE (m : MethodId) (x0 : Int32) : entryFrame m #[(.int x0)] 1 = mkF m 0 #[.val (.int x0)] [] := by first | (simp [entryFrame, mkF, argsToLocals, Value.category]; done) | rfl
def Q_rmE (Z : State) (w0 : Addr) (w1 : Addr) (w2 : Addr) (w3 : Addr) (w4 : Addr) (w5 : Addr) (w6 : Addr) (i : Int32) (h0 : Heap) (n0 : Nat) (v : Option Value) (h : Heap) (L : List Loc) : Prop := v = some (.int (if i = (6 : Int32) then (6 : Int32) else (0 : Int32))) ∧ Fr n0 L ∧ h = h0
set_option maxRecDepth 65536 in
set_option maxHeartbeats 40000000 in
theorem rmE (l : Launch) (Z : State) (a0 : Array Value) (hw : ∀ d ∈ tables_1, d.before a0 Z = true) (ws : List Jvm.Cond) (w0 : Addr) (w1 : Addr) (w2 : Addr) (w3 : Addr) (w4 : Addr) (w5 : Addr) (w6 : Addr) (GS : Glob Z w0 w1 w2 w3 w4 w5 w6) (i : Int32) (h0 : Heap) (n0 : Nat) (Z0 : n0 ≤ h0.size) (O0 : Old Z n0 h0) :
    MetFree l (⟨"com/example/vestledger/vestledger/award/AllocationTypeScalePinLaw", "expectedScale", "(I)I"⟩ : MethodName) (head1 (Jvm.Cond.code (⟨"com/example/vestledger/vestledger/award/AllocationTypeScalePinLaw", "expectedScale", "(I)I"⟩ : MethodName) method_3_code 1 (some .int) :: ws) ({ frames := 0, cells := 0, slots := 0, locals := 0 } : Room)) (fun a U => a = #[(.int i)] ∧ Z.Warmed39 U.vm ∧ U.heap = h0) (fun _ _ _ _ _ => True) (fun _ U o U' => ∃ v L, o = .returned v ∧ Q_rmE Z w0 w1 w2 w3 w4 w5 w6 i h0 n0 v U'.heap L ∧ FrameEnd U o U' L ({ frames := 0, cells := 0, slots := 0, locals := 0 } : Room).cells ({ frames := 0, cells := 0, slots := 0, locals := 0 } : Room).slots) := by
  refine MetFree.of_bodySF (plainFor_of_name own_pn_com_example_vestledger_vestledger_award_AllocationTypeScalePinLaw) hisR ?_
  intro p e s m args below meth c s₁ Bd hml0 hP hK
  obtain ⟨rfl, hZ, hh⟩ := hP
  have hx := Bd.exec
  have hby := Bd.bytes
  have hml : c.maxLocals = 1 := hml0
  have hown : s.vm.findClass "com/example/vestledger/vestledger/award/AllocationTypeScalePinLaw" = some m.cls := findClass_of_methodNamed Bd.named
  have hnm := (name_of_methodNamed Bd.named Bd.method).1
  have X0 : Stand p l e ({ frames := 0, cells := 0, slots := 0, locals := 0 } : Room) s m #[(.int i)] below meth c s₁ [] 0 0 := Stand.of_body Bd
  have e0 : s₁.heap = h0 := by rw [← hh, Bd.state]; rfl
  have N0 := Fr.nil n0
  have hn0 : Z.heap.size = n0 := O0.1
  have KT0 : Keep h0 h0 [] := Keep.refl _ _
  refine own_enter (Φ := fun o U' => ∃ v L, o = .returned v ∧ Q_rmE Z w0 w1 w2 w3 w4 w5 w6 i h0 n0 v U'.heap L ∧ FrameEnd s o U' L ({ frames := 0, cells := 0, slots := 0, locals := 0 } : Room).cells ({ frames := 0, cells := 0, slots := 0, locals := 0 } : Room).slots) (own_ef_rmE m i) ?_
  refine own_by (T' := s₁) (g' := (mkF m 1 #[.val (.int i)] [(.int i)])) (fun _ k => XS.iloadN X0.here hx rfl (hb hby own_d3_0) rfl k) ?_
  refine own_by (T' := s₁) (g' := (mkF m 3 #[.val (.int i)] [(.int (6 : Int32)), (.int i)])) (fun _ k => XS.bipush X0.here hx rfl (hb hby own_d3_1) k) ?_
  by_cases hc1 : i = (6 : Int32)
  · refine own_by (T' := s₁) (g' := (mkF m 6 #[.val (.int i)] [])) (fun _ k => XS.icmpNo X0.here hx rfl (hb hby own_d3_3) rfl (XT.ii_ne_f hc1) k) ?_
    refine own_by (T' := s₁) (g' := (mkF m 8 #[.val (.int i)] [(.int (6 : Int32))])) (fun _ k => XS.bipush X0.here hx rfl (hb hby own_d3_6) k) ?_
    have hr2 : (6 : Int32) = (if i = (6 : Int32) then (6 : Int32) else (0 : Int32)) := by simp [hc1]
    obtain ⟨fs3, hr3, hrun3, hended3, hW3, hsame3⟩ := X0.leave (v := some (.int (6 : Int32))) (fun h => by rw [Bd.returns] at h; cases h)
    refine ⟨_, _, retOut X0 hx (t := .int) Bd.returns rfl (Or.inl ⟨rfl, Or.inl rfl, _, rfl⟩) (hb hby own_d3_8) hr3, hrun3, hended3, _, _, rfl, ?_, ⟨_, rfl⟩, hW3, hsame3.mono (by decide) (by decide)⟩
    show Q_rmE Z w0 w1 w2 w3 w4 w5 w6 i h0 n0 _ s₁.heap _
    exact ⟨(congrArg (fun z => some (Value.int z)) hr2), N0, e0⟩
  · refine own_by (T' := s₁) (g' := (mkF m 9 #[.val (.int i)] [])) (fun _ k => XS.icmpYes X0.here hx rfl (pc0 := 3) (pc' := 9) rfl (hb hby own_d3_3) rfl (XT.ii_ne_t hc1) (by decide) (by decide) k) ?_
    refine own_by (T' := s₁) (g' := (mkF m 10 #[.val (.int i)] [(.int (0 : Int32))])) (fun _ k => XS.iconst X0.here hx rfl (hb hby own_d3_9) k) ?_
    have hr4 : (0 : Int32) = (if i = (6 : Int32) then (6 : Int32) else (0 : Int32)) := by simp [hc1]
    obtain ⟨fs5, hr5, hrun5, hended5, hW5, hsame5⟩ := X0.leave (v := some (.int (0 : Int32))) (fun h => by rw [Bd.returns] at h; cases h)
    refine ⟨_, _, retOut X0 hx (t := .int) Bd.returns rfl (Or.inl ⟨rfl, Or.inl rfl, _, rfl⟩) (hb hby own_d3_10) hr5, hrun5, hended5, _, _, rfl, ?_, ⟨_, rfl⟩, hW5, hsame5.mono (by decide) (by decide)⟩
    show Q_rmE Z w0 w1 w2 w3 w4 w5 w6 i h0 n0 _ s₁.heap _
    exact ⟨(congrArg (fun z => some (Value.int z)) hr4), N0, e0⟩
theorem own_pd_0 : parseMethodDescriptor "(I)Lcom/example/vestledger/vestledger/award/AllocationType;" = some ⟨[.int], some (.object "com/example/vestledger/vestledger/award/AllocationType")⟩ := by decide +kernel
theorem own_pd_1 : parseMethodDescriptor "()I" = some ⟨[], some .int⟩ := by decide +kernel
theorem own_pd_2 : parseMethodDescriptor "(I)I" = some ⟨[.int], some .int⟩ := by decide +kernel
theorem own_ef_rm0 (m : MethodId) (x0 : Int32) : entryFrame m #[(.int x0)] maxLocals = mkF m 0 #[.val (.int x0), .unset, .unset] [] := by first | (simp [entryFrame, mkF, argsToLocals, Value.category, maxLocals]; done) | rfl
def Q_rm0 (Z : State) (w0 : Addr) (w1 : Addr) (w2 : Addr) (w3 : Addr) (w4 : Addr) (w5 : Addr) (w6 : Addr) (p0 : Int32) (h0 : Heap) (n0 : Nat) (v : Option Value) (h : Heap) (L : List Loc) : Prop := v = some (.int (1 : Int32)) ∧ Fr n0 L
set_option maxRecDepth 65536 in
set_option maxHeartbeats 40000000 in
theorem rm0 (l : Launch) (Z : State) (a0 : Array Value) (hw : ∀ d ∈ tables_1, d.before a0 Z = true) (ws : List Jvm.Cond) (w0 : Addr) (w1 : Addr) (w2 : Addr) (w3 : Addr) (w4 : Addr) (w5 : Addr) (w6 : Addr) (GS : Glob Z w0 w1 w2 w3 w4 w5 w6) (p0 : Int32) (h0 : Heap) (n0 : Nat) (Z0 : n0 ≤ h0.size) (O0 : Old Z n0 h0) :
    MetFree l x (head1 (Jvm.Cond.code x code maxLocals ret :: ws) room_1) (fun a U => a = #[(.int p0)] ∧ Z.Warmed39 U.vm ∧ U.heap = h0) (fun _ _ _ _ _ => True) (fun _ U o U' => ∃ v L, o = .returned v ∧ Q_rm0 Z w0 w1 w2 w3 w4 w5 w6 p0 h0 n0 v U'.heap L ∧ FrameEnd U o U' L 0 0) := by
  refine MetFree.of_bodySF (plainFor_of_name own_pn_com_example_vestledger_vestledger_award_AllocationTypeScalePinLaw) hisR ?_
  intro p e s m args below meth c s₁ Bd hml0 hP hK
  obtain ⟨rfl, hZ, hh⟩ := hP
  have hx := Bd.exec
  have hby := Bd.bytes
  have hml : c.maxLocals = 3 := hml0
  have hown : s.vm.findClass "com/example/vestledger/vestledger/award/AllocationTypeScalePinLaw" = some m.cls := findClass_of_methodNamed Bd.named
  have hnm := (name_of_methodNamed Bd.named Bd.method).1
  have X0 : Stand p l e room_1 s m #[(.int p0)] below meth c s₁ [] 0 0 := Stand.of_body Bd
  have e0 : s₁.heap = h0 := by rw [← hh, Bd.state]; rfl
  have N0 := Fr.nil n0
  have hn0 : Z.heap.size = n0 := O0.1
  have KT0 : Keep h0 h0 [] := Keep.refl _ _
  refine own_enter (Φ := fun o U' => ∃ v L, o = .returned v ∧ Q_rm0 Z w0 w1 w2 w3 w4 w5 w6 p0 h0 n0 v U'.heap L ∧ FrameEnd s o U' L 0 0) (own_ef_rm0 m p0) ?_
  refine own_by (T' := s₁) (g' := (mkF m 1 #[.val (.int p0), .unset, .unset] [(.int p0)])) (fun _ k => XS.iloadN X0.here hx rfl (hb hby at_0) rfl k) ?_
  refine own_by (T' := s₁) (g' := (mkF m 3 #[.val (.int p0), .unset, .unset] [(.int (2147483647 : Int32)), (.int p0)])) (fun _ k => X0.ldcInt hx hown (mvT hZ (hw _ (List.mem_of_getElem? (i := 0) rfl))) (g := (mkF m 1 #[.val (.int p0), .unset, .unset] [(.int p0)])) rfl (hb hby at_1) _ k) ?_
  refine own_by (T' := s₁) (g' := (mkF m 4 #[.val (.int p0), .unset, .unset] [(.int (p0 &&& (2147483647 : Int32)))])) (fun _ k => XS.iand X0.here hx rfl (hb hby at_3) rfl k) ?_
  refine own_by (T' := s₁) (g' := (mkF m 6 #[.val (.int p0), .unset, .unset] [(.int (7 : Int32)), (.int (p0 &&& (2147483647 : Int32)))])) (fun _ k => XS.bipush X0.here hx rfl (hb hby at_4) k) ?_
  refine own_by (T' := s₁) (g' := (mkF m 7 #[.val (.int p0), .unset, .unset] [(.int ((p0 &&& (2147483647 : Int32)) % (7 : Int32)))])) (fun _ k => iremM X0 hx rfl (hb hby at_6) rfl (by decide) k) ?_
  refine own_by (T' := s₁) (g' := (mkF m 8 #[.val (.int p0), .val (.int ((p0 &&& (2147483647 : Int32)) % (7 : Int32))), .unset] [])) (fun _ k => XS.istoreN X0.here hx rfl (hb hby at_7) rfl (l' := #[.val (.int p0), .val (.int ((p0 &&& (2147483647 : Int32)) % (7 : Int32))), .unset]) rfl k) ?_
  refine own_by (T' := s₁) (g' := (mkF m 9 #[.val (.int p0), .val (.int ((p0 &&& (2147483647 : Int32)) % (7 : Int32))), .unset] [(.int ((p0 &&& (2147483647 : Int32)) % (7 : Int32)))])) (fun _ k => XS.iloadN X0.here hx rfl (hb hby at_8) rfl k) ?_
  obtain ⟨_, _, ⟨T2, L2, k2, n2⟩, -, X2, ⟨Lc2, hQ2, l2, y2, z2⟩, st2⟩ := Jvm.LawKit.callS X0 hx (y := (⟨"com/example/vestledger/vestledger/award/AllocationTypeScalePinLaw", "pick", "(I)Lcom/example/vestledger/vestledger/award/AllocationType;"⟩ : MethodName)) hown (mvT hZ (hw _ (List.mem_of_getElem? (i := 1) rfl))) (mvT hZ (hw _ (List.mem_of_getElem? (i := 2) rfl))) (mvT hZ (hw _ (List.mem_of_getElem? (i := 3) rfl))) (mvT hZ (hw _ (List.mem_of_getElem? (i := 4) rfl))) (by decide) (backOf (W := 0) (rmP l Z a0 hw [] w0 w1 w2 w3 w4 w5 w6 GS ((p0 &&& (2147483647 : Int32)) % (7 : Int32)) h0 n0 (by omega) O0 (own_mod p0 7 7 rfl (by decide))) hZ (hw _ (List.mem_of_getElem? (i := 4) rfl)) (hw _ (List.mem_of_getElem? (i := 3) rfl)) (by decide) (by decide)) (g := (mkF m 9 #[.val (.int p0), .val (.int ((p0 &&& (2147483647 : Int32)) % (7 : Int32))), .unset] [(.int ((p0 &&& (2147483647 : Int32)) % (7 : Int32)))])) rfl (by rw [hml]; rfl) (argsL := [(.int ((p0 &&& (2147483647 : Int32)) % (7 : Int32)))]) (rest := []) (lenOf own_pd_0 rfl) rfl (by show 2 * 0 + _ ≤ _; exact Nat.le_of_eq rfl) (hb hby at_9) (fun _ _ => ⟨rfl, e0, (by decide : 0 + 0 ≤ _), (by decide : 0 + 0 ≤ _)⟩)
  dsimp only [Pt.U, Pt.locs, Pt.cells, Pt.slots] at X2 l2 y2 z2 st2 hQ2
  subst l2 y2 z2
  obtain ⟨t_3, rfl, N2q, e2, p2_0, p2_1⟩ := hQ2
  have N4 := Fr.app N0 N2q
  rw [e2] at p2_0
  refine own_by (T' := T2) (g' := (mkF m 12 #[.val (.int p0), .val (.int ((p0 &&& (2147483647 : Int32)) % (7 : Int32))), .unset] [(.ref t_3)])) st2 ?_
  refine own_by (T' := T2) (g' := (mkF m 13 #[.val (.int p0), .val (.int ((p0 &&& (2147483647 : Int32)) % (7 : Int32))), .val (.ref t_3)] [])) (fun _ k => XS.astoreN X2.here hx rfl (hb hby at_12) rfl rfl (l' := #[.val (.int p0), .val (.int ((p0 &&& (2147483647 : Int32)) % (7 : Int32))), .val (.ref t_3)]) rfl k) ?_
  refine own_by (T' := T2) (g' := (mkF m 14 #[.val (.int p0), .val (.int ((p0 &&& (2147483647 : Int32)) % (7 : Int32))), .val (.ref t_3)] [(.ref t_3)])) (fun _ k => XS.aloadN X2.here hx rfl (hb hby at_13) rfl rfl k) ?_
  obtain ⟨cq5, kq5, q5a, q5b, q5c⟩ := isOf hZ e2 p2_0
  obtain ⟨_, _, ⟨T5, L5, k5, n5⟩, -, X5, ⟨Lc5, hQ5, l5, y5, z5⟩, st5⟩ := X2.virtualBack hx (y := (⟨"com/example/vestledger/vestledger/award/AllocationType", "scale", "()I"⟩ : MethodName)) (z := (⟨"com/example/vestledger/vestledger/award/AllocationType", "scale", "()I"⟩ : MethodName)) hown (mvT hZ (hw _ (List.mem_of_getElem? (i := 8) rfl))) (mvT hZ (hw _ (List.mem_of_getElem? (i := 9) rfl))) (notFace_of_selects (args := #[]) (mvT hZ (hw _ (List.mem_of_getElem? (i := 11) rfl)))) (mvT hZ (hw _ (List.mem_of_getElem? (i := 11) rfl))) (mvT hZ (hw _ (List.mem_of_getElem? (i := 10) rfl))) (by decide) (backOf (W := 0) (rmS l Z a0 hw [] w0 w1 w2 w3 w4 w5 w6 GS t_3 h0 n0 (by omega) O0 ) hZ (hw _ (List.mem_of_getElem? (i := 12) rfl)) (hw _ (List.mem_of_getElem? (i := 6) rfl)) (by decide) (by decide)) q5a q5c (g := (mkF m 14 #[.val (.int p0), .val (.int ((p0 &&& (2147483647 : Int32)) % (7 : Int32))), .val (.ref t_3)] [(.ref t_3)])) rfl (by rw [hml]; rfl) (Steps.refl _) (argsL := []) (rest := []) (lenOf own_pd_1 rfl) rfl (by show 2 * 0 + _ ≤ _; exact Nat.le_of_eq rfl) (hb hby at_14) (fun _ _ => ⟨rfl, e2, (by decide : 0 + 0 ≤ _), (by decide : 0 + 0 ≤ _)⟩)
  dsimp only [Pt.U, Pt.locs, Pt.cells, Pt.slots] at X5 l5 y5 z5 st5 hQ5
  subst l5 y5 z5
  obtain ⟨rfl, N5q, e5⟩ := hQ5
  have N6 := Fr.app N4 N5q
  refine own_by (T' := T5) (g' := (mkF m 17 #[.val (.int p0), .val (.int ((p0 &&& (2147483647 : Int32)) % (7 : Int32))), .val (.ref t_3)] [(.int (if t_3 = w6 then (6 : Int32) else (0 : Int32)))])) (fun _ k => st5.trans k) ?_
  refine own_by (T' := T5) (g' := (mkF m 18 #[.val (.int p0), .val (.int ((p0 &&& (2147483647 : Int32)) % (7 : Int32))), .val (.ref t_3)] [(.int ((p0 &&& (2147483647 : Int32)) % (7 : Int32))), (.int (if t_3 = w6 then (6 : Int32) else (0 : Int32)))])) (fun _ k => XS.iloadN X5.here hx rfl (hb hby at_17) rfl k) ?_
  obtain ⟨_, _, ⟨T7, L7, k7, n7⟩, -, X7, ⟨Lc7, hQ7, l7, y7, z7⟩, st7⟩ := Jvm.LawKit.callS X5 hx (y := (⟨"com/example/vestledger/vestledger/award/AllocationTypeScalePinLaw", "expectedScale", "(I)I"⟩ : MethodName)) hown (mvT hZ (hw _ (List.mem_of_getElem? (i := 15) rfl))) (mvT hZ (hw _ (List.mem_of_getElem? (i := 16) rfl))) (mvT hZ (hw _ (List.mem_of_getElem? (i := 3) rfl))) (mvT hZ (hw _ (List.mem_of_getElem? (i := 17) rfl))) (by decide) (backOf (W := 1) (rmE l Z a0 hw [] w0 w1 w2 w3 w4 w5 w6 GS ((p0 &&& (2147483647 : Int32)) % (7 : Int32)) h0 n0 (by omega) O0 ) hZ (hw _ (List.mem_of_getElem? (i := 17) rfl)) (hw _ (List.mem_of_getElem? (i := 3) rfl)) (by decide) (by decide)) (g := (mkF m 18 #[.val (.int p0), .val (.int ((p0 &&& (2147483647 : Int32)) % (7 : Int32))), .val (.ref t_3)] [(.int ((p0 &&& (2147483647 : Int32)) % (7 : Int32))), (.int (if t_3 = w6 then (6 : Int32) else (0 : Int32)))])) rfl (by rw [hml]; rfl) (argsL := [(.int ((p0 &&& (2147483647 : Int32)) % (7 : Int32)))]) (rest := [(.int (if t_3 = w6 then (6 : Int32) else (0 : Int32)))]) (lenOf own_pd_2 rfl) rfl (by show 2 * 0 + _ ≤ _; exact Nat.le_of_eq rfl) (hb hby at_18) (fun _ _ => ⟨rfl, e5, (by decide : 0 + 0 ≤ _), (by decide : 0 + 0 ≤ _)⟩)
  dsimp only [Pt.U, Pt.locs, Pt.cells, Pt.slots] at X7 l7 y7 z7 st7 hQ7
  subst l7 y7 z7
  obtain ⟨rfl, N7q, e7⟩ := hQ7
  have N8 := Fr.app N6 N7q
  refine own_by (T' := T7) (g' := (mkF m 21 #[.val (.int p0), .val (.int ((p0 &&& (2147483647 : Int32)) % (7 : Int32))), .val (.ref t_3)] [(.int (if ((p0 &&& (2147483647 : Int32)) % (7 : Int32)) = (6 : Int32) then (6 : Int32) else (0 : Int32))), (.int (if t_3 = w6 then (6 : Int32) else (0 : Int32)))])) st7 ?_
  refine own_by (T' := T7) (g' := (mkF m 24 #[.val (.int p0), .val (.int ((p0 &&& (2147483647 : Int32)) % (7 : Int32))), .val (.ref t_3)] [])) (fun _ k => XS.icmpNo X7.here hx rfl (hb hby at_21) rfl (XT.ii_ne_f (by simp only [p2_1])) k) ?_
  refine own_by (T' := T7) (g' := (mkF m 25 #[.val (.int p0), .val (.int ((p0 &&& (2147483647 : Int32)) % (7 : Int32))), .val (.ref t_3)] [(.int (1 : Int32))])) (fun _ k => XS.iconst X7.here hx rfl (hb hby at_24) k) ?_
  refine own_by (T' := T7) (g' := (mkF m 29 #[.val (.int p0), .val (.int ((p0 &&& (2147483647 : Int32)) % (7 : Int32))), .val (.ref t_3)] [(.int (1 : Int32))])) (fun _ k => XS.goto X7.here hx rfl (pc0 := 25) (pc' := 29) rfl (hb hby at_25) (by decide) (by decide) k) ?_
  have hn9 : nar .boolean (1 : Int32) = (1 : Int32) := rfl
  obtain ⟨fs10, hr10, hrun10, hended10, hW10, hsame10⟩ := X7.leave (v := some (.int (nar .boolean (1 : Int32)))) (fun h => by rw [Bd.returns] at h; cases h)
  refine ⟨_, _, retN X7 hx (t := .boolean) Bd.returns (by simp) (hb hby at_29) hr10, hrun10, hended10, _, _, rfl, ?_, ⟨_, rfl⟩, hW10, hsame10.mono (by decide) (by decide)⟩
  show Q_rm0 Z w0 w1 w2 w3 w4 w5 w6 p0 h0 n0 _ T7.heap _
  exact ⟨(congrArg (fun z => some (Value.int z)) hn9), N8⟩
set_option maxRecDepth 65536 in
set_option maxHeartbeats 40000000 in
theorem comes_1 {Post : Tables → Env → Array Value → State → Outcome → State → Prop} (hpost : ∀ tb e args s v u, (limb_1_1.after args s (.returned v) u = true ∧ limb_1_2.after args s (.returned v) u = true ∧ True) → FrameEnd s (.returned v) u (Jvm.fieldLocs frame_1_writes args s ++ Jvm.arrayLocs frame_1_arrays args s ++ Jvm.staticLocs frame_1_statics s) 0 0 → Post tb e args s (.returned v) u) :
    ArmFor flags0 classFile x code maxLocals ret World_1 tables_1 room_1 Calls_1 rest_1 Pre_1 Post := by
  intro l hfl _ _ p e ha hc hk s m args below hf hA hF happ hP
  obtain ⟨hcalls, hrest, hpre⟩ := hP
  obtain ⟨-, -, -, hnamed, -, -, -, hat⟩ := (Spec.applies_iff hf).mp happ
  obtain ⟨hg, hn⟩ := and_e (Cond.before_iff.mp (show (Jvm.Cond.and given_1 narrow_1).before args s = true from hpre))
  obtain ⟨g1a, g1b⟩ := and_e hg
  obtain ⟨g2a, g2b⟩ := and_e hn
  obtain ⟨g3a, g3b⟩ := and_e g2b
  obtain ⟨g4a, g4b⟩ := and_e g3b
  obtain ⟨g5a, g5b⟩ := and_e g4b
  obtain ⟨g6a, g6b⟩ := and_e g5b
  obtain ⟨g7a, g7b⟩ := and_e g6b
  obtain ⟨g8a, g8b⟩ := and_e g7b
  obtain ⟨g9a, g9b⟩ := and_e g8b
  obtain ⟨g10a, g10b⟩ := and_e g9b
  obtain ⟨g11a, g11b⟩ := and_e g10b
  obtain ⟨g12a, g12b⟩ := and_e g11b
  obtain ⟨g13a, g13b⟩ := and_e g12b
  obtain ⟨g14a, g14b⟩ := and_e g13b
  obtain ⟨w0, rfl⟩ : ∃ w0 : Value, args = #[w0] := by
    have hs : args.size = 1 := by simpa [Cond.value, given_1] using g1a
    obtain ⟨L⟩ := args
    match L, hs with
    | [w0], _ => exact ⟨w0, rfl⟩
  have hw := fun d (hd : d ∈ tables_1) => atoms_spec (ws := Jvm.Cond.code x code maxLocals ret :: tables_1) hat d (List.mem_cons_of_mem _ hd)
  have hfit : Fit s := fun {y c} hc i hi => by
    obtain ⟨ha, rfl⟩ := Array.getElem?_eq_some_iff.mp hc
    have q := List.all_eq_true.mp ((Array.all_eq_true_iff_forall_mem.mp hF) _ (Array.getElem_mem ha)) i (List.mem_range.mpr hi)
    simpa [Array.getElem?_eq_getElem hi] using q
  obtain ⟨i0, ei0⟩ := is_v g1b
  obtain rfl : w0 = (.int i0) := Option.some.inj ei0
  obtain ⟨w0, ev_w0⟩ := exa_v g2a
  have sta_w0 := Sta.start ev_w0 (Or.inr ⟨(hw _ (List.mem_of_getElem? (i := 6) rfl)), (hw _ (List.mem_of_getElem? (i := 7) rfl))⟩)
  obtain ⟨w1, ev_w1⟩ := exa_v g14a
  have sta_w1 := Sta.start ev_w1 (Or.inr ⟨(hw _ (List.mem_of_getElem? (i := 6) rfl)), (hw _ (List.mem_of_getElem? (i := 28) rfl))⟩)
  obtain ⟨w2, ev_w2⟩ := exa_v g12a
  have sta_w2 := Sta.start ev_w2 (Or.inr ⟨(hw _ (List.mem_of_getElem? (i := 6) rfl)), (hw _ (List.mem_of_getElem? (i := 26) rfl))⟩)
  obtain ⟨w3, ev_w3⟩ := exa_v g6a
  have sta_w3 := Sta.start ev_w3 (Or.inr ⟨(hw _ (List.mem_of_getElem? (i := 6) rfl)), (hw _ (List.mem_of_getElem? (i := 19) rfl))⟩)
  obtain ⟨w4, ev_w4⟩ := exa_v g10a
  have sta_w4 := Sta.start ev_w4 (Or.inr ⟨(hw _ (List.mem_of_getElem? (i := 6) rfl)), (hw _ (List.mem_of_getElem? (i := 24) rfl))⟩)
  obtain ⟨w5, ev_w5⟩ := exa_v g8a
  have sta_w5 := Sta.start ev_w5 (Or.inr ⟨(hw _ (List.mem_of_getElem? (i := 6) rfl)), (hw _ (List.mem_of_getElem? (i := 21) rfl))⟩)
  obtain ⟨w6, ev_w6⟩ := exa_v g3a
  have sta_w6 := Sta.start ev_w6 (Or.inr ⟨(hw _ (List.mem_of_getElem? (i := 6) rfl)), (hw _ (List.mem_of_getElem? (i := 14) rfl))⟩)
  have exa_w0 := Exa.start ev_w0 g2a
  have exa_w1 := Exa.start ev_w1 g14a
  have exa_w2 := Exa.start ev_w2 g12a
  have exa_w3 := Exa.start ev_w3 g6a
  have exa_w4 := Exa.start ev_w4 g10a
  have exa_w5 := Exa.start ev_w5 g8a
  have exa_w6 := Exa.start ev_w6 g3a
  have fld_w0_ordinal := own_fldI ev_w0 g4a
  have fld_w1_ordinal := own_fldI ev_w1 g14b
  have fld_w2_ordinal := own_fldI ev_w2 g13a
  have fld_w3_ordinal := own_fldI ev_w3 g7a
  have fld_w4_ordinal := own_fldI ev_w4 g11a
  have fld_w5_ordinal := own_fldI ev_w5 g9a
  have fld_w6_ordinal := own_fldI ev_w6 g5a
  have GS : Glob s w0 w1 w2 w3 w4 w5 w6 := ⟨sta_w0, sta_w1, sta_w2, sta_w3, sta_w4, sta_w5, sta_w6, exa_w0, exa_w1, exa_w2, exa_w3, exa_w4, exa_w5, exa_w6, fld_w0_ordinal, fld_w1_ordinal, fld_w2_ordinal, fld_w3_ordinal, fld_w4_ordinal, fld_w5_ordinal, fld_w6_ordinal⟩
  obtain ⟨n, o, h1, h2, h3, _, L, rfl, ⟨rfl, N⟩, hq⟩ := rm0 l s _ hw tables_1 w0 w1 w2 w3 w4 w5 w6 GS i0 s.heap s.heap.size (Nat.le_refl _) (Old.start s) p e ha hc hk s m _ below hf ((Spec.applies_iff_loose hf).mp happ).1 ⟨rfl, State.Warmed39.refl s, rfl⟩ trivial
  refine ⟨n, _, h1, h2, h3, hpost _ _ _ _ _ _ ⟨Cond.after_iff.mpr rfl, Cond.after_iff.mpr (eq_i res_at (Term.int_eval (1)) rfl), trivial⟩ ⟨hq.1, hq.2.1, (hq.2.2.sift fun y hy => Or.inr (N y hy)).mono (by decide) (by decide)⟩⟩
theorem main_1_1 : Claimed_1_1 := comes_1 fun _ _ _ _ _ _ h hF => ⟨h.1, hF⟩
theorem main_1_2 : Claimed_1_2 := comes_1 fun _ _ _ _ _ _ h hF => ⟨h.2.1, hF⟩
end Jvm.Pilot.@@N@@
namespace Jvm.Pilot.@@N@@
open Jvm Jvm.ClassFile Sem Op Lib Jvm.Free Jvm.Stand Jvm.Pilot.@@N@@.Jvm.D
/-! MADE BY PROGRAM (witnessworld.py) out of the Statement's table words and the real class files: 12 classes; the members and pool entries that the words name. The judged class is class 1, her method 3. -/
namespace start1
open Jvm.ClassFile
def u (s : String) : CpInfo := .utf8 (stringToUtf16 s)
/-- a pool by its gaps: so many unusable entries, then the entry; so many at the end -/
def gap : Nat → List CpInfo → List CpInfo
  | 0, r => r
  | n + 1, r => .unusable :: gap n r
def poolList (es : List (Nat × CpInfo)) (last : Nat) : List CpInfo := es.foldr (fun e r => gap e.1 (e.2 :: r)) (gap last [])
def pool (es : List (Nat × CpInfo)) (last : Nat) : Array CpInfo := ⟨poolList es last⟩
def fileOf (pool : Array CpInfo) (this : Nat) (attrs : Array Attribute := #[]) (ms : Array MethodInfo := #[]) (fl : Nat := 33) (sup : Nat := 0) (ifs : Array Nat := #[]) (fds : Array FieldInfo := #[]) : ClassFile where
  minorVersion := 0
  majorVersion := 65
  constantPool := pool
  accessFlags := fl
  thisClass := this
  superClass := sup
  interfaces := ifs
  fields := fds
  methods := ms
  attributes := attrs
def plain (name : String) (sup : Option ClassId) : Class where
  name := name
  kind := .ordinary
  loader := none
  accessFlags := 33
  super := sup
  interfaces := #[]
  cf := none
  fields := #[]
  methods := #[]
  instanceTypes := #[]
  staticTypes := #[]
  resolved := #[]
  callSites := []
  init := .initialized
  statics := none
  mirror := none

def pool0 : Array CpInfo := pool [(5, u "<init>"), (0, u "()V"), (1, .class_ 10), (1, u "java/lang/Object")] 113

def k0m0 : Method := { name := "<init>", desc := "()V", sig := { parameters := [], returnType := none }, accessFlags := 1, code := none }
/-- java/lang/Object -/
def k0 : Class := { plain "java/lang/Object" none with
  accessFlags := 33
  interfaces := #[]
  cf := some (fileOf pool0 8 #[] #[{ accessFlags := 1, nameIndex := 5, descriptorIndex := 6, attributes := #[] }] 33 0 #[] #[])
  fields := #[]
  methods := #[k0m0]
  instanceTypes := #[]
  staticTypes := #[]
  resolved := Array.replicate 124 none
  statics := none }

def pool1 : Array CpInfo := pool [(2, .class_ 4), (1, u "java/lang/Object"), (0, u "<init>"), (0, u "()V"), (0, .fieldref 8 9), (0, .class_ 10), (0, .nameAndType 11 12), (0, u "com/example/vestledger/vestledger/award/AllocationType"), (0, u "CUMULATIVE_ROUNDING"), (0, u "Lcom/example/vestledger/vestledger/award/AllocationType;"), (0, .fieldref 8 14), (0, .nameAndType 15 12), (0, u "CUMULATIVE_ROUND_DOWN"), (0, .fieldref 8 17), (0, .nameAndType 18 12), (0, u "FRONT_LOADED"), (0, .fieldref 8 20), (0, .nameAndType 21 12), (0, u "BACK_LOADED"), (0, .fieldref 8 23), (0, .nameAndType 24 12), (0, u "FRONT_LOADED_TO_SINGLE_TRANCHE"), (0, .fieldref 8 26), (0, .nameAndType 27 12), (0, u "BACK_LOADED_TO_SINGLE_TRANCHE"), (0, .fieldref 8 29), (0, .nameAndType 30 12), (0, u "FRACTIONAL"), (0, .integer 2147483647), (0, .methodref 33 34), (0, .class_ 35), (0, .nameAndType 36 37), (0, u "com/example/vestledger/vestledger/award/AllocationTypeScalePinLaw"), (0, u "pick"), (0, u "(I)Lcom/example/vestledger/vestledger/award/AllocationType;"), (0, .methodref 8 39), (0, .nameAndType 40 41), (0, u "scale"), (0, u "()I"), (0, .methodref 33 43), (0, .nameAndType 44 45), (0, u "expectedScale"), (0, u "(I)I"), (3, u "law"), (0, u "(I)Z")] 2

def k1m0 : Method := { name := "<init>", desc := "()V", sig := { parameters := [], returnType := none }, accessFlags := 2, code := none }
def k1c1 : Code := { maxStack := 2, maxLocals := 1, code := method_2_code, exceptionTable := #[], attributes := #[] }
def k1m1 : Method := { name := "pick", desc := "(I)Lcom/example/vestledger/vestledger/award/AllocationType;", sig := { parameters := [.int], returnType := some (.object "com/example/vestledger/vestledger/award/AllocationType") }, accessFlags := 10, code := some k1c1 }
def k1c2 : Code := { maxStack := 2, maxLocals := 1, code := method_3_code, exceptionTable := #[], attributes := #[] }
def k1m2 : Method := { name := "expectedScale", desc := "(I)I", sig := { parameters := [.int], returnType := some .int }, accessFlags := 10, code := some k1c2 }
def k1c3 : Code := { maxStack := 2, maxLocals := 3, code := code, exceptionTable := #[], attributes := #[] }
def k1m3 : Method := { name := "law", desc := "(I)Z", sig := { parameters := [.int], returnType := some .boolean }, accessFlags := 9, code := some k1c3 }
/-- com/example/vestledger/vestledger/award/AllocationTypeScalePinLaw -/
def k1 : Class := { plain "com/example/vestledger/vestledger/award/AllocationTypeScalePinLaw" (some 0) with
  accessFlags := 49
  interfaces := #[]
  cf := some (fileOf pool1 33 #[] #[{ accessFlags := 2, nameIndex := 5, descriptorIndex := 6, attributes := #[] }, { accessFlags := 10, nameIndex := 36, descriptorIndex := 37, attributes := #[] }, { accessFlags := 10, nameIndex := 44, descriptorIndex := 45, attributes := #[] }, { accessFlags := 9, nameIndex := 49, descriptorIndex := 50, attributes := #[] }] 49 2 #[] #[])
  fields := #[]
  methods := #[k1m0, k1m1, k1m2, k1m3]
  instanceTypes := #[]
  staticTypes := #[]
  resolved := Array.replicate 53 none
  statics := none }

def pool2 : Array CpInfo := pool [(1, .class_ 2), (0, u "java/lang/constant/Constable"), (0, .class_ 4), (0, u "java/lang/Object")] 6

/-- java/lang/constant/Constable -/
def k2 : Class := { plain "java/lang/constant/Constable" (some 0) with
  accessFlags := 1537
  interfaces := #[]
  cf := some (fileOf pool2 1 #[] #[] 1537 3 #[] #[])
  fields := #[]
  methods := #[]
  instanceTypes := #[]
  staticTypes := #[]
  resolved := Array.replicate 11 none
  statics := none }

def pool3 : Array CpInfo := pool [(1, .class_ 2), (0, u "java/lang/Comparable"), (0, .class_ 4), (0, u "java/lang/Object")] 7

/-- java/lang/Comparable -/
def k3 : Class := { plain "java/lang/Comparable" (some 0) with
  accessFlags := 1537
  interfaces := #[]
  cf := some (fileOf pool3 1 #[] #[] 1537 3 #[] #[])
  fields := #[]
  methods := #[]
  instanceTypes := #[]
  staticTypes := #[]
  resolved := Array.replicate 12 none
  statics := none }

def pool4 : Array CpInfo := pool [(1, .class_ 2), (0, u "java/io/Serializable"), (0, .class_ 4), (0, u "java/lang/Object")] 2

/-- java/io/Serializable -/
def k4 : Class := { plain "java/io/Serializable" (some 0) with
  accessFlags := 1537
  interfaces := #[]
  cf := some (fileOf pool4 1 #[] #[] 1537 3 #[] #[])
  fields := #[]
  methods := #[]
  instanceTypes := #[]
  staticTypes := #[]
  resolved := Array.replicate 7 none
  statics := none }

def pool5 : Array CpInfo := pool [(2, .class_ 4), (1, u "java/lang/Enum"), (0, u "name"), (0, u "Ljava/lang/String;"), (2, u "ordinal"), (0, u "I"), (1, .class_ 14), (1, u "java/lang/Object"), (4, u "hash"), (86, .class_ 108), (1, u "java/lang/Enum$EnumDesc"), (2, .class_ 112), (0, u "java/lang/constant/Constable"), (0, .class_ 114), (0, u "java/lang/Comparable"), (0, .class_ 116), (0, u "java/io/Serializable")] 87

/-- java/lang/Enum -/
def k5 : Class := { plain "java/lang/Enum" (some 0) with
  accessFlags := 1057
  interfaces := #[2, 3, 4]
  cf := some (fileOf pool5 2 #[.nestMembers #[106]] #[] 1057 12 #[111, 113, 115] #[{ accessFlags := 18, nameIndex := 5, descriptorIndex := 6, attributes := #[] }, { accessFlags := 18, nameIndex := 9, descriptorIndex := 10, attributes := #[] }, { accessFlags := 2, nameIndex := 19, descriptorIndex := 10, attributes := #[] }])
  fields := #[{ name := "name", type := (.object "java/lang/String"), accessFlags := 18, slot := 0, constantValue := 0 }, { name := "ordinal", type := .int, accessFlags := 18, slot := 1, constantValue := 0 }, { name := "hash", type := .int, accessFlags := 2, slot := 2, constantValue := 0 }]
  methods := #[]
  instanceTypes := #[(.object "java/lang/String"), .int, .int]
  staticTypes := #[]
  resolved := Array.replicate 204 none
  statics := none }

def pool6 : Array CpInfo := pool [(1, .class_ 2), (0, u "com/example/vestledger/vestledger/award/AllocationType"), (2, u "CUMULATIVE_ROUNDING"), (0, u "Lcom/example/vestledger/vestledger/award/AllocationType;"), (2, u "CUMULATIVE_ROUND_DOWN"), (2, u "FRONT_LOADED"), (2, u "BACK_LOADED"), (2, u "FRONT_LOADED_TO_SINGLE_TRANCHE"), (2, u "BACK_LOADED_TO_SINGLE_TRANCHE"), (0, .fieldref 1 23), (0, .nameAndType 24 6), (0, u "FRACTIONAL"), (2, u "$VALUES"), (0, u "[Lcom/example/vestledger/vestledger/award/AllocationType;"), (6, .class_ 37), (1, u "java/lang/Enum"), (18, u "()I"), (43, u "FRACTION_SCALE"), (0, u "I"), (9, u "scale")] 7

def k6c0 : Code := { maxStack := 2, maxLocals := 1, code := prog_1_method_4_code, exceptionTable := #[], attributes := #[] }
def k6m0 : Method := { name := "scale", desc := "()I", sig := { parameters := [], returnType := some .int }, accessFlags := 1, code := some k6c0 }
/-- com/example/vestledger/vestledger/award/AllocationType -/
def k6 : Class := { plain "com/example/vestledger/vestledger/award/AllocationType" (some 5) with
  accessFlags := 16433
  interfaces := #[]
  cf := some (fileOf pool6 1 #[] #[{ accessFlags := 1, nameIndex := 111, descriptorIndex := 56, attributes := #[] }] 16433 35 #[] #[{ accessFlags := 16409, nameIndex := 5, descriptorIndex := 6, attributes := #[] }, { accessFlags := 16409, nameIndex := 9, descriptorIndex := 6, attributes := #[] }, { accessFlags := 16409, nameIndex := 12, descriptorIndex := 6, attributes := #[] }, { accessFlags := 16409, nameIndex := 15, descriptorIndex := 6, attributes := #[] }, { accessFlags := 16409, nameIndex := 18, descriptorIndex := 6, attributes := #[] }, { accessFlags := 16409, nameIndex := 21, descriptorIndex := 6, attributes := #[] }, { accessFlags := 16409, nameIndex := 24, descriptorIndex := 6, attributes := #[] }, { accessFlags := 26, nameIndex := 100, descriptorIndex := 101, attributes := #[] }, { accessFlags := 4122, nameIndex := 27, descriptorIndex := 28, attributes := #[] }])
  fields := #[{ name := "CUMULATIVE_ROUNDING", type := (.object "com/example/vestledger/vestledger/award/AllocationType"), accessFlags := 16409, slot := 0, constantValue := 0 }, { name := "CUMULATIVE_ROUND_DOWN", type := (.object "com/example/vestledger/vestledger/award/AllocationType"), accessFlags := 16409, slot := 1, constantValue := 0 }, { name := "FRONT_LOADED", type := (.object "com/example/vestledger/vestledger/award/AllocationType"), accessFlags := 16409, slot := 2, constantValue := 0 }, { name := "BACK_LOADED", type := (.object "com/example/vestledger/vestledger/award/AllocationType"), accessFlags := 16409, slot := 3, constantValue := 0 }, { name := "FRONT_LOADED_TO_SINGLE_TRANCHE", type := (.object "com/example/vestledger/vestledger/award/AllocationType"), accessFlags := 16409, slot := 4, constantValue := 0 }, { name := "BACK_LOADED_TO_SINGLE_TRANCHE", type := (.object "com/example/vestledger/vestledger/award/AllocationType"), accessFlags := 16409, slot := 5, constantValue := 0 }, { name := "FRACTIONAL", type := (.object "com/example/vestledger/vestledger/award/AllocationType"), accessFlags := 16409, slot := 6, constantValue := 0 }, { name := "FRACTION_SCALE", type := .int, accessFlags := 26, slot := 7, constantValue := 0 }, { name := "$VALUES", type := (.array (.object "com/example/vestledger/vestledger/award/AllocationType")), accessFlags := 4122, slot := 8, constantValue := 0 }]
  methods := #[k6m0]
  instanceTypes := #[(.object "java/lang/String"), .int, .int]
  staticTypes := #[(.object "com/example/vestledger/vestledger/award/AllocationType"), (.object "com/example/vestledger/vestledger/award/AllocationType"), (.object "com/example/vestledger/vestledger/award/AllocationType"), (.object "com/example/vestledger/vestledger/award/AllocationType"), (.object "com/example/vestledger/vestledger/award/AllocationType"), (.object "com/example/vestledger/vestledger/award/AllocationType"), (.object "com/example/vestledger/vestledger/award/AllocationType"), .int, (.array (.object "com/example/vestledger/vestledger/award/AllocationType"))]
  resolved := Array.replicate 119 none
  statics := some 0 }

def pool7 : Array CpInfo := pool [(1, u "java/lang/Cloneable"), (0, .class_ 1), (0, u "java/lang/Object"), (0, .class_ 3)] 3

/-- java/lang/Cloneable -/
def k7 : Class := { plain "java/lang/Cloneable" (some 0) with
  accessFlags := 1537
  interfaces := #[]
  cf := some (fileOf pool7 2 #[] #[] 1537 4 #[] #[])
  fields := #[]
  methods := #[]
  instanceTypes := #[]
  staticTypes := #[]
  resolved := Array.replicate 8 none
  statics := none }

/-- the primitive byte -/
def k8 : Class := { plain "byte" none with kind := .primitive 'B', accessFlags := 0x411 }
/-- [B -/
def k9 : Class := { plain "[B" (some 0) with kind := .array 8 .byte, interfaces := #[7, 4], accessFlags := 1041 }

/-- the primitive int -/
def k10 : Class := { plain "int" none with kind := .primitive 'I', accessFlags := 0x411 }
/-- [I -/
def k11 : Class := { plain "[I" (some 0) with kind := .array 10 .int, interfaces := #[7, 4], accessFlags := 1041 }

def heap : Heap := #[{ cls := 6, slots := #[.ref 1, .ref 7, .ref 6, .ref 3, .ref 5, .ref 4, .ref 2, .int 0, .null], vm := .statics 6 },
  { cls := 6, slots := #[.null, .int 0, .int 0], vm := .none },
  { cls := 6, slots := #[.null, .int 6, .int 0], vm := .none },
  { cls := 6, slots := #[.null, .int 3, .int 0], vm := .none },
  { cls := 6, slots := #[.null, .int 5, .int 0], vm := .none },
  { cls := 6, slots := #[.null, .int 4, .int 0], vm := .none },
  { cls := 6, slots := #[.null, .int 2, .int 0], vm := .none },
  { cls := 6, slots := #[.null, .int 1, .int 0], vm := .none }]
def classes : Array Class := #[k0, k1, k2, k3, k4, k5, k6, k7, k8, k9, k10, k11]
def interned : List (Array UInt16 × Addr) := []
def slotsUsed : Nat := 30
def theMethod : MethodId := ⟨1, 3⟩
def args0 : Array Value := #[.int 6]
def aboutOver (below : List Frame) : State where
  vm := { classes := classes, interned := interned.toArray }
  heap := heap
  slotsUsed := slotsUsed
  threads := #[{ frames := .invoking theMethod args0 :: below }]
def below0 : List Frame := [.native { method := ⟨0, 0⟩, args := #[] }]
def about1 : State := aboutOver below0
def p0 : Program := .bare "" "" ""
def e0 : Env := launch0.env 0 0 0
theorem w_frames : about1.frames = Frame.invoking theMethod args0 :: below0 := rfl
set_option maxRecDepth 65536 in
theorem w_args : argsFit about1.vm theMethod args0 = true := by decide +kernel
set_option maxRecDepth 65536 in
theorem w_heap : heapFits about1 = true := by decide +kernel
set_option maxRecDepth 65536 in
theorem w_runnable : about1.curStatus? = some .runnable := by decide +kernel
set_option maxRecDepth 65536 in
theorem w_alone : about1.alone = true := by decide +kernel
set_option maxRecDepth 65536 in
theorem w_named : about1.methodNamed? x = some theMethod := by decide +kernel
set_option maxRecDepth 65536 in
theorem w_hears : about1.hears theMethod below0 = true := by decide +kernel
set_option maxRecDepth 65536 in
theorem w_ripe : about1.ripe theMethod args0 below0 = true := by decide +kernel
theorem w_running : about1.status = .running := rfl
set_option maxRecDepth 65536 in
theorem w_room : about1.hasRoom e0.platform room_1 = true :=
  launch0.hasRoom_least _ room_1 (by decide +kernel) (by decide +kernel) (by decide +kernel) (by decide +kernel) (by decide +kernel) (by decide +kernel)
theorem allAtoms_all (ts : List Jvm.Cond) (a : Array Jvm.Value) (st : Jvm.State) : (allAtoms ts).before a st = ts.all (fun c => c.before a st) := by
  induction ts with
  | nil => rfl
  | cons c t ih =>
    show (Jvm.Cond.and c (allAtoms t)).before a st = _
    rw [Jvm.Cond.before_and, ih, List.all_cons]
def words1 : List Jvm.Cond := Jvm.Cond.code x code maxLocals ret :: tables_1
/-- a 'code' word, met by the world's own term for the bytes: nothing is compared byte by byte -/
theorem code_word {y : MethodName} {bytes : ByteArray} {mx : Nat} {rt : Option FieldType} {a : Array Value} {s : State} {m : MethodId} {meth : Method} {c : Code} (h1 : s.methodNamed? y = some m) (h2 : s.vm.method? m = some meth) (h3 : meth.code = some c) (h4 : c.code = bytes)
    (h5 : (c.maxLocals == mx && c.exceptionTable.isEmpty && decide (c.maxStack ≤ mostOperands) && decide (meth.sig.returnType = rt) && !meth.locks && decide (parseMethodDescriptor y.desc = some meth.sig)) = true) : (Jvm.Cond.code y bytes mx rt).before a s = true := by
  simp only [Bool.and_eq_true, beq_iff_eq, Bool.not_eq_true', decide_eq_true_eq] at h5
  obtain ⟨⟨⟨⟨⟨g1, g2⟩, g3⟩, g4⟩, g5⟩, g6⟩ := h5
  simp [Cond.before, Cond.holds, Cond.value, h1, h2, h3, h4, g1, g2, g3, g4, g5, g6]
def isCode : Jvm.Cond → Bool
  | .code _ _ _ _ => true
  | _ => false
theorem all_split {L : List Jvm.Cond} {P : Jvm.Cond → Bool} (h1 : L.all (fun c => isCode c || P c) = true) (h2 : ∀ c ∈ L.filter isCode, P c = true) : L.all P = true := by
  refine List.all_eq_true.mpr fun c hc => ?_
  have h := List.all_eq_true.mp h1 c hc
  rcases Bool.eq_false_or_eq_true (isCode c) with hi | hi
  · exact h2 c (List.mem_filter.mpr ⟨hc, hi⟩)
  · simpa [hi] using h
set_option maxRecDepth 65536 in
theorem w_c0 : (Jvm.Cond.code x code maxLocals ret).before args0 about1 = true := code_word (m := ⟨1, 3⟩) (meth := k1m3) (c := k1c3) (by decide +kernel) rfl rfl rfl (by decide +kernel)
set_option maxRecDepth 65536 in
theorem w_c1 : (Jvm.Cond.code ({ cls := "com/example/vestledger/vestledger/award/AllocationTypeScalePinLaw", name := "pick", desc := "(I)Lcom/example/vestledger/vestledger/award/AllocationType;" } : Jvm.MethodName) method_2_code (1 : Nat) (Option.some (Jvm.ClassFile.FieldType.object "com/example/vestledger/vestledger/award/AllocationType"))).before args0 about1 = true := code_word (m := ⟨1, 1⟩) (meth := k1m1) (c := k1c1) (by decide +kernel) rfl rfl rfl (by decide +kernel)
set_option maxRecDepth 65536 in
theorem w_c2 : (Jvm.Cond.code ({ cls := "com/example/vestledger/vestledger/award/AllocationType", name := "scale", desc := "()I" } : Jvm.MethodName) prog_1_method_4_code (1 : Nat) (Option.some Jvm.ClassFile.FieldType.int)).before args0 about1 = true := code_word (m := ⟨6, 0⟩) (meth := k6m0) (c := k6c0) (by decide +kernel) rfl rfl rfl (by decide +kernel)
set_option maxRecDepth 65536 in
theorem w_c3 : (Jvm.Cond.code ({ cls := "com/example/vestledger/vestledger/award/AllocationTypeScalePinLaw", name := "expectedScale", desc := "(I)I" } : Jvm.MethodName) method_3_code (1 : Nat) (Option.some Jvm.ClassFile.FieldType.int)).before args0 about1 = true := code_word (m := ⟨1, 2⟩) (meth := k1m2) (c := k1c2) (by decide +kernel) rfl rfl rfl (by decide +kernel)
def codes1 : List Jvm.Cond := [Jvm.Cond.code x code maxLocals ret, Jvm.Cond.code ({ cls := "com/example/vestledger/vestledger/award/AllocationTypeScalePinLaw", name := "pick", desc := "(I)Lcom/example/vestledger/vestledger/award/AllocationType;" } : Jvm.MethodName) method_2_code (1 : Nat) (Option.some (Jvm.ClassFile.FieldType.object "com/example/vestledger/vestledger/award/AllocationType")), Jvm.Cond.code ({ cls := "com/example/vestledger/vestledger/award/AllocationType", name := "scale", desc := "()I" } : Jvm.MethodName) prog_1_method_4_code (1 : Nat) (Option.some Jvm.ClassFile.FieldType.int), Jvm.Cond.code ({ cls := "com/example/vestledger/vestledger/award/AllocationTypeScalePinLaw", name := "expectedScale", desc := "(I)I" } : Jvm.MethodName) method_3_code (1 : Nat) (Option.some Jvm.ClassFile.FieldType.int)]
set_option maxRecDepth 65536 in
theorem codes_eq : words1.filter isCode = codes1 := rfl
theorem w_codes : ∀ c ∈ words1.filter isCode, c.before args0 about1 = true := by
  rw [codes_eq]
  intro c hc
  simp only [codes1, List.mem_cons, List.not_mem_nil, or_false] at hc
  rcases hc with rfl | rfl | rfl | rfl
  · exact w_c0
  · exact w_c1
  · exact w_c2
  · exact w_c3
set_option maxRecDepth 65536 in
theorem w_t1 : (words1.take 24).all (fun c => isCode c || c.before args0 about1) = true := by decide +kernel
set_option maxRecDepth 65536 in
theorem w_t2 : (words1.drop 24).all (fun c => isCode c || c.before args0 about1) = true := by decide +kernel
theorem w_tables : (allAtoms (Jvm.Cond.code x code maxLocals ret :: tables_1)).before args0 about1 = true := by
  rw [allAtoms_all]
  show words1.all (fun c => c.before args0 about1) = true
  refine all_split ?_ w_codes
  rw [← List.take_append_drop 24 words1, List.all_append, w_t1, w_t2]
  rfl
set_option maxRecDepth 65536 in
theorem w_case : (Jvm.Cond.and given_1 narrow_1).before args0 about1 = true := by decide +kernel
theorem w_applies : (headSpec (Jvm.Cond.code x code maxLocals ret :: tables_1) room_1).applies x e0.platform about1 = true :=
  (Spec.applies_iff w_frames).mpr ⟨w_running, w_runnable, w_alone, w_named, w_hears, w_ripe, w_room, w_tables⟩
theorem atStart : AtStart classFile x code maxLocals ret World_1 tables_1 room_1 Calls_1 rest_1 Pre_1 launch0 p0 e0 about1 theMethod args0 below0 :=
  ⟨lists_1, trivial, launch0.admits_env _ _ _, launch0.least_env, fairChoices_fair.cas, fairChoices_fair.clock, w_frames, w_args, w_heap, w_applies, trivial, trivial, w_case⟩
end start1
theorem witness_1 : WitnessClaimed_1 := ⟨start1.p0, start1.e0, start1.about1, start1.theMethod, start1.args0, start1.below0, start1.atStart⟩
end Jvm.Pilot.@@N@@
