import JvmDerived
import JvmDerived.Pilot.@@N@@Statement
import JvmDerived.Pilot.@@N@@Code
set_option linter.unusedVariables false
set_option linter.unusedSimpArgs false
namespace Jvm.Pilot.@@N@@
open Jvm Jvm.ClassFile Sem Op Lib Jvm.Free Jvm.Stand Jvm.LawKit Jvm.RoadKit Bundle Jvm.Pilot.@@N@@.Jvm.D
/-! 0. the walk's goal, and how a step leads to it -/
def OGoal (p : Program) (e : Env) (below : List Frame) (Φ : Outcome → State → Prop) (T : State) (g : JFrame) : Prop :=
  ∃ s₂ o, Steps p.tables e below (T.setTop g) s₂ ∧ s₂.status = .running ∧ Ended s₂ below o ∧ Φ o s₂
theorem own_by {p : Program} {e : Env} {below : List Frame} {Φ : Outcome → State → Prop} {T T' : State} {g g' : JFrame}
    (st : ∀ t, Steps p.tables e below (T'.setTop g') t → Steps p.tables e below (T.setTop g) t) (G : OGoal p e below Φ T' g') : OGoal p e below Φ T g := by
  obtain ⟨s₂, o, h1, h2⟩ := G
  exact ⟨s₂, o, st _ h1, h2⟩
theorem own_enter {p : Program} {e : Env} {below : List Frame} {Φ : Outcome → State → Prop} {T : State} {g g' : JFrame} (q : g = g') (G : OGoal p e below Φ T g') :
    ∃ s₂ o, Steps p.tables e below (T.setTop g) s₂ ∧ s₂.status = .running ∧ Ended s₂ below o ∧ Φ o s₂ := by subst q; exact G
theorem own_kext {h h' : Heap} (E : Ext h h') : Keep h h' [] := (Keep.refl h []).ext E
theorem own_narR {ty : FieldType} {v : Value} (hty : ty.isReference = true) (h : v.isRef = true) : narrow ty v = v := by
  rcases ref_cases h with rfl | ⟨a, rfl⟩ <;> cases ty <;> first | rfl | (cases hty)
theorem own_fitR {ty : FieldType} {v : Value} (hty : ty.isReference = true) (h : v.isRef = true) : fits ty v = true := by
  rcases ref_cases h with rfl | ⟨a, rfl⟩ <;> cases ty <;> first | rfl | (cases hty)
theorem own_narC (x : Int32) : nar .char (x.toUInt32.toUInt16.toUInt32.toInt32) = x.toUInt32.toUInt16.toUInt32.toInt32 := by
  show (x.toUInt32.toUInt16.toUInt32.toInt32).toUInt32.toUInt16.toUInt32.toInt32 = _
  simp only [UInt32.toUInt32_toInt32, UInt16.toUInt16_toUInt32]
theorem own_narB (x : Int32) : nar .byte (x.toInt8.toInt32) = x.toInt8.toInt32 := by
  show (x.toInt8.toInt32).toInt8.toInt32 = _
  simp
theorem own_fldI {Z : State} {args : Array Value} {t : Term} {a : Addr} {C n d : String} {k : Int32} (ev : t.eval args Z none [] Z = some (.ref a)) (h : (Jvm.Cond.eq (.field t C n d) (.int k)).value args Z none Z [] = some true) : Fld Z Z.heap a C n d (.int k) :=
  Fld.start ((fld_at ev).symm.trans (eqv_i (Term.int_eval k) h))
theorem own_fldJ {Z : State} {args : Array Value} {t : Term} {a : Addr} {C n d : String} {k : Int64} (ev : t.eval args Z none [] Z = some (.ref a)) (h : (Jvm.Cond.eq (.field t C n d) (.long k)).value args Z none Z [] = some true) : Fld Z Z.heap a C n d (.long k) :=
  Fld.start ((fld_at ev).symm.trans (eqv_l (F := .long k) rfl h))
def Glob (Z : State) (w0 : Addr) (w1 : Addr) (w2 : Addr) (w3 : Addr) (w4 : Addr) (w5 : Addr) : Prop := Sta Z Z.heap "com/example/dependency_wiring/dependencywiring/InjectionPoint$Shape" "ONE" "Lcom/example/dependency_wiring/dependencywiring/InjectionPoint$Shape;" (.ref w0) ∧ Sta Z Z.heap "com/example/dependency_wiring/dependencywiring/InjectionPoint$Shape" "OPTIONAL" "Lcom/example/dependency_wiring/dependencywiring/InjectionPoint$Shape;" (.ref w1) ∧ Sta Z Z.heap "com/example/dependency_wiring/dependencywiring/InjectionPoint$Shape" "LIST" "Lcom/example/dependency_wiring/dependencywiring/InjectionPoint$Shape;" (.ref w2) ∧ Sta Z Z.heap "com/example/dependency_wiring/dependencywiring/InjectionPoint$Shape" "SET" "Lcom/example/dependency_wiring/dependencywiring/InjectionPoint$Shape;" (.ref w3) ∧ Sta Z Z.heap "com/example/dependency_wiring/dependencywiring/InjectionPoint$Shape" "MAP" "Lcom/example/dependency_wiring/dependencywiring/InjectionPoint$Shape;" (.ref w4) ∧ Sta Z Z.heap "com/example/dependency_wiring/dependencywiring/InjectionPoint$Shape" "PROVIDER" "Lcom/example/dependency_wiring/dependencywiring/InjectionPoint$Shape;" (.ref w5) ∧ Exa Z Z.heap w0 "com/example/dependency_wiring/dependencywiring/InjectionPoint$Shape" ∧ Exa Z Z.heap w1 "com/example/dependency_wiring/dependencywiring/InjectionPoint$Shape" ∧ Exa Z Z.heap w2 "com/example/dependency_wiring/dependencywiring/InjectionPoint$Shape" ∧ Exa Z Z.heap w3 "com/example/dependency_wiring/dependencywiring/InjectionPoint$Shape" ∧ Exa Z Z.heap w4 "com/example/dependency_wiring/dependencywiring/InjectionPoint$Shape" ∧ Exa Z Z.heap w5 "com/example/dependency_wiring/dependencywiring/InjectionPoint$Shape" ∧ Fld Z Z.heap w0 "java/lang/Enum" "ordinal" "I" (.int (0 : Int32)) ∧ Fld Z Z.heap w1 "java/lang/Enum" "ordinal" "I" (.int (1 : Int32)) ∧ Fld Z Z.heap w2 "java/lang/Enum" "ordinal" "I" (.int (2 : Int32)) ∧ Fld Z Z.heap w3 "java/lang/Enum" "ordinal" "I" (.int (3 : Int32)) ∧ Fld Z Z.heap w4 "java/lang/Enum" "ordinal" "I" (.int (4 : Int32)) ∧ Fld Z Z.heap w5 "java/lang/Enum" "ordinal" "I" (.int (5 : Int32))
theorem own_d1_0 : decode prog_58_method_4_code 0 = .ok (.aload_n 0, 1) := by decide +kernel
theorem own_d1_1 : decode prog_58_method_4_code 1 = .ok (.getstatic 10, 3) := by decide +kernel
theorem own_d1_4 : decode prog_58_method_4_code 4 = .ok (.if_acmp .eq 17, 3) := by decide +kernel
theorem own_d1_7 : decode prog_58_method_4_code 7 = .ok (.aload_n 0, 1) := by decide +kernel
theorem own_d1_8 : decode prog_58_method_4_code 8 = .ok (.getstatic 13, 3) := by decide +kernel
theorem own_d1_11 : decode prog_58_method_4_code 11 = .ok (.if_acmp .eq 10, 3) := by decide +kernel
theorem own_d1_14 : decode prog_58_method_4_code 14 = .ok (.aload_n 0, 1) := by decide +kernel
theorem own_d1_15 : decode prog_58_method_4_code 15 = .ok (.getstatic 16, 3) := by decide +kernel
theorem own_d1_18 : decode prog_58_method_4_code 18 = .ok (.if_acmp .ne 7, 3) := by decide +kernel
theorem own_d1_21 : decode prog_58_method_4_code 21 = .ok (.iconst 1, 1) := by decide +kernel
theorem own_d1_22 : decode prog_58_method_4_code 22 = .ok (.goto 4, 3) := by decide +kernel
theorem own_d1_25 : decode prog_58_method_4_code 25 = .ok (.iconst 0, 1) := by decide +kernel
theorem own_d1_26 : decode prog_58_method_4_code 26 = .ok (.ireturn, 1) := by decide +kernel
theorem own_pn_com_example_dependency_wiring_dependencywiring_InjectionPoint_Shape : plainName "com/example/dependency_wiring/dependencywiring/InjectionPoint$Shape" = true := by first | (simp [plainName, overriddenIn]; done) | decide +kernel
theorem own_ef_rmT (m : MethodId) (x0 : Addr) : entryFrame m #[(.ref x0)] 1 = mkF m 0 #[.val (.ref x0)] [] := by first | (simp [entryFrame, mkF, argsToLocals, Value.category]; done) | rfl
def Q_rmT (Z : State) (w0 : Addr) (w1 : Addr) (w2 : Addr) (w3 : Addr) (w4 : Addr) (w5 : Addr) (t : Addr) (h0 : Heap) (n0 : Nat) (v : Option Value) (h : Heap) (L : List Loc) : Prop := v = some (.int (if t = w2 then (1 : Int32) else if t = w3 then (1 : Int32) else if t = w4 then (1 : Int32) else (0 : Int32))) ∧ Fr n0 L ∧ h = h0
set_option maxRecDepth 65536 in
set_option maxHeartbeats 40000000 in
theorem rmT (l : Launch) (Z : State) (a0 : Array Value) (hw : ∀ d ∈ tables_1, d.before a0 Z = true) (ws : List Jvm.Cond) (w0 : Addr) (w1 : Addr) (w2 : Addr) (w3 : Addr) (w4 : Addr) (w5 : Addr) (GS : Glob Z w0 w1 w2 w3 w4 w5) (t : Addr) (h0 : Heap) (n0 : Nat) (Z0 : n0 ≤ h0.size) (O0 : Old Z n0 h0) :
    MetFree l (⟨"com/example/dependency_wiring/dependencywiring/InjectionPoint$Shape", "takesAll", "()Z"⟩ : MethodName) (head1 (Jvm.Cond.code (⟨"com/example/dependency_wiring/dependencywiring/InjectionPoint$Shape", "takesAll", "()Z"⟩ : MethodName) prog_58_method_4_code 1 (some .boolean) :: ws) ({ frames := 0, cells := 0, slots := 0, locals := 0 } : Room)) (fun a U => a = #[(.ref t)] ∧ Z.Warmed39 U.vm ∧ U.heap = h0) (fun _ _ _ _ _ => True) (fun _ U o U' => ∃ v L, o = .returned v ∧ Q_rmT Z w0 w1 w2 w3 w4 w5 t h0 n0 v U'.heap L ∧ FrameEnd U o U' L ({ frames := 0, cells := 0, slots := 0, locals := 0 } : Room).cells ({ frames := 0, cells := 0, slots := 0, locals := 0 } : Room).slots) := by
  refine MetFree.of_bodySF (plainFor_of_name own_pn_com_example_dependency_wiring_dependencywiring_InjectionPoint_Shape) hisR ?_
  intro p e s m args below meth c s₁ Bd hml0 hP hK
  obtain ⟨rfl, hZ, hh⟩ := hP
  have hx := Bd.exec
  have hby := Bd.bytes
  have hml : c.maxLocals = 1 := hml0
  have hown : s.vm.findClass "com/example/dependency_wiring/dependencywiring/InjectionPoint$Shape" = some m.cls := findClass_of_methodNamed Bd.named
  have hnm := (name_of_methodNamed Bd.named Bd.method).1
  have X0 : Stand p l e ({ frames := 0, cells := 0, slots := 0, locals := 0 } : Room) s m #[(.ref t)] below meth c s₁ [] 0 0 := Stand.of_body Bd
  have e0 : s₁.heap = h0 := by rw [← hh, Bd.state]; rfl
  have N0 := Fr.nil n0
  have hn0 : Z.heap.size = n0 := O0.1
  have KT0 : Keep h0 h0 [] := Keep.refl _ _
  refine own_enter (Φ := fun o U' => ∃ v L, o = .returned v ∧ Q_rmT Z w0 w1 w2 w3 w4 w5 t h0 n0 v U'.heap L ∧ FrameEnd s o U' L ({ frames := 0, cells := 0, slots := 0, locals := 0 } : Room).cells ({ frames := 0, cells := 0, slots := 0, locals := 0 } : Room).slots) (own_ef_rmT m t) ?_
  refine own_by (T' := s₁) (g' := (mkF m 1 #[.val (.ref t)] [(.ref t)])) (fun _ k => XS.aloadN X0.here hx rfl (hb hby own_d1_0) rfl rfl k) ?_
  have f1 := GS.2.2.1.ext O0.2
  obtain ⟨T2, X2, e2, st2⟩ := getS2 X0 hx hZ hown (host := "") (Or.inl (hw _ (List.mem_of_getElem? (i := 9) rfl))) Via.refl e0 f1 (g := (mkF m 1 #[.val (.ref t)] [(.ref t)])) rfl (hb hby own_d1_1)
  refine own_by (T' := T2) (g' := (mkF m 4 #[.val (.ref t)] [(.ref w2), (.ref t)])) st2 ?_
  by_cases hc3 : t = w2
  · refine own_by (T' := T2) (g' := (mkF m 21 #[.val (.ref t)] [])) (fun _ k => Jvm.RoadKit.acmp (g := (mkF m 4 #[.val (.ref t)] [(.ref w2), (.ref t)])) X2 hx rfl rfl rfl (pc0 := 4) (pc' := 21) (same := true) rfl (hb hby own_d1_4) rfl (decide_eq_true (congrArg Value.ref hc3)) (by decide) (by decide) k) ?_
    refine own_by (T' := T2) (g' := (mkF m 22 #[.val (.ref t)] [(.int (1 : Int32))])) (fun _ k => XS.iconst X2.here hx rfl (hb hby own_d1_21) k) ?_
    refine own_by (T' := T2) (g' := (mkF m 26 #[.val (.ref t)] [(.int (1 : Int32))])) (fun _ k => XS.goto X2.here hx rfl (pc0 := 22) (pc' := 26) rfl (hb hby own_d1_22) (by decide) (by decide) k) ?_
    have hn4 : nar .boolean (1 : Int32) = (1 : Int32) := rfl
    have hr5 : (1 : Int32) = (if t = w2 then (1 : Int32) else if t = w3 then (1 : Int32) else if t = w4 then (1 : Int32) else (0 : Int32)) := by simp [hc3]
    obtain ⟨fs6, hr6, hrun6, hended6, hW6, hsame6⟩ := X2.leave (v := some (.int (nar .boolean (1 : Int32)))) (fun h => by rw [Bd.returns] at h; cases h)
    refine ⟨_, _, retN X2 hx (t := .boolean) Bd.returns (by simp) (hb hby own_d1_26) hr6, hrun6, hended6, _, _, rfl, ?_, ⟨_, rfl⟩, hW6, hsame6.mono (by decide) (by decide)⟩
    show Q_rmT Z w0 w1 w2 w3 w4 w5 t h0 n0 _ T2.heap _
    exact ⟨(congrArg (fun z => some (Value.int z)) (hn4.trans hr5)), N0, e2⟩
  · refine own_by (T' := T2) (g' := (mkF m 7 #[.val (.ref t)] [])) (fun _ k => Jvm.RoadKit.acmp (g := (mkF m 4 #[.val (.ref t)] [(.ref w2), (.ref t)])) X2 hx rfl rfl rfl (pc0 := 4) (pc' := 7) (same := false) rfl (hb hby own_d1_4) rfl (decide_eq_false fun q => hc3 (Value.ref.inj q)) (by decide) (by decide) k) ?_
    refine own_by (T' := T2) (g' := (mkF m 8 #[.val (.ref t)] [(.ref t)])) (fun _ k => XS.aloadN X2.here hx rfl (hb hby own_d1_7) rfl rfl k) ?_
    have f7 := GS.2.2.2.1.ext O0.2
    obtain ⟨T8, X8, e8, st8⟩ := getS2 X2 hx hZ hown (host := "") (Or.inl (hw _ (List.mem_of_getElem? (i := 11) rfl))) Via.refl e2 f7 (g := (mkF m 8 #[.val (.ref t)] [(.ref t)])) rfl (hb hby own_d1_8)
    refine own_by (T' := T8) (g' := (mkF m 11 #[.val (.ref t)] [(.ref w3), (.ref t)])) st8 ?_
    by_cases hc9 : t = w3
    · refine own_by (T' := T8) (g' := (mkF m 21 #[.val (.ref t)] [])) (fun _ k => Jvm.RoadKit.acmp (g := (mkF m 11 #[.val (.ref t)] [(.ref w3), (.ref t)])) X8 hx rfl rfl rfl (pc0 := 11) (pc' := 21) (same := true) rfl (hb hby own_d1_11) rfl (decide_eq_true (congrArg Value.ref hc9)) (by decide) (by decide) k) ?_
      refine own_by (T' := T8) (g' := (mkF m 22 #[.val (.ref t)] [(.int (1 : Int32))])) (fun _ k => XS.iconst X8.here hx rfl (hb hby own_d1_21) k) ?_
      refine own_by (T' := T8) (g' := (mkF m 26 #[.val (.ref t)] [(.int (1 : Int32))])) (fun _ k => XS.goto X8.here hx rfl (pc0 := 22) (pc' := 26) rfl (hb hby own_d1_22) (by decide) (by decide) k) ?_
      have hn10 : nar .boolean (1 : Int32) = (1 : Int32) := rfl
      have hr11 : (1 : Int32) = (if t = w2 then (1 : Int32) else if t = w3 then (1 : Int32) else if t = w4 then (1 : Int32) else (0 : Int32)) := by simp [hc3, hc9]
      obtain ⟨fs12, hr12, hrun12, hended12, hW12, hsame12⟩ := X8.leave (v := some (.int (nar .boolean (1 : Int32)))) (fun h => by rw [Bd.returns] at h; cases h)
      refine ⟨_, _, retN X8 hx (t := .boolean) Bd.returns (by simp) (hb hby own_d1_26) hr12, hrun12, hended12, _, _, rfl, ?_, ⟨_, rfl⟩, hW12, hsame12.mono (by decide) (by decide)⟩
      show Q_rmT Z w0 w1 w2 w3 w4 w5 t h0 n0 _ T8.heap _
      exact ⟨(congrArg (fun z => some (Value.int z)) (hn10.trans hr11)), N0, e8⟩
    · refine own_by (T' := T8) (g' := (mkF m 14 #[.val (.ref t)] [])) (fun _ k => Jvm.RoadKit.acmp (g := (mkF m 11 #[.val (.ref t)] [(.ref w3), (.ref t)])) X8 hx rfl rfl rfl (pc0 := 11) (pc' := 14) (same := false) rfl (hb hby own_d1_11) rfl (decide_eq_false fun q => hc9 (Value.ref.inj q)) (by decide) (by decide) k) ?_
      refine own_by (T' := T8) (g' := (mkF m 15 #[.val (.ref t)] [(.ref t)])) (fun _ k => XS.aloadN X8.here hx rfl (hb hby own_d1_14) rfl rfl k) ?_
      have f13 := GS.2.2.2.2.1.ext O0.2
      obtain ⟨T14, X14, e14, st14⟩ := getS2 X8 hx hZ hown (host := "") (Or.inl (hw _ (List.mem_of_getElem? (i := 13) rfl))) Via.refl e8 f13 (g := (mkF m 15 #[.val (.ref t)] [(.ref t)])) rfl (hb hby own_d1_15)
      refine own_by (T' := T14) (g' := (mkF m 18 #[.val (.ref t)] [(.ref w4), (.ref t)])) st14 ?_
      by_cases hc15 : t = w4
      · refine own_by (T' := T14) (g' := (mkF m 21 #[.val (.ref t)] [])) (fun _ k => Jvm.RoadKit.acmp (g := (mkF m 18 #[.val (.ref t)] [(.ref w4), (.ref t)])) X14 hx rfl rfl rfl (pc0 := 18) (pc' := 21) (same := true) rfl (hb hby own_d1_18) rfl (decide_eq_true (congrArg Value.ref hc15)) (by decide) (by decide) k) ?_
        refine own_by (T' := T14) (g' := (mkF m 22 #[.val (.ref t)] [(.int (1 : Int32))])) (fun _ k => XS.iconst X14.here hx rfl (hb hby own_d1_21) k) ?_
        refine own_by (T' := T14) (g' := (mkF m 26 #[.val (.ref t)] [(.int (1 : Int32))])) (fun _ k => XS.goto X14.here hx rfl (pc0 := 22) (pc' := 26) rfl (hb hby own_d1_22) (by decide) (by decide) k) ?_
        have hn16 : nar .boolean (1 : Int32) = (1 : Int32) := rfl
        have hr17 : (1 : Int32) = (if t = w2 then (1 : Int32) else if t = w3 then (1 : Int32) else if t = w4 then (1 : Int32) else (0 : Int32)) := by simp [hc3, hc9, hc15]
        obtain ⟨fs18, hr18, hrun18, hended18, hW18, hsame18⟩ := X14.leave (v := some (.int (nar .boolean (1 : Int32)))) (fun h => by rw [Bd.returns] at h; cases h)
        refine ⟨_, _, retN X14 hx (t := .boolean) Bd.returns (by simp) (hb hby own_d1_26) hr18, hrun18, hended18, _, _, rfl, ?_, ⟨_, rfl⟩, hW18, hsame18.mono (by decide) (by decide)⟩
        show Q_rmT Z w0 w1 w2 w3 w4 w5 t h0 n0 _ T14.heap _
        exact ⟨(congrArg (fun z => some (Value.int z)) (hn16.trans hr17)), N0, e14⟩
      · refine own_by (T' := T14) (g' := (mkF m 25 #[.val (.ref t)] [])) (fun _ k => Jvm.RoadKit.acmp (g := (mkF m 18 #[.val (.ref t)] [(.ref w4), (.ref t)])) X14 hx rfl rfl rfl (pc0 := 18) (pc' := 25) (same := false) rfl (hb hby own_d1_18) rfl (decide_eq_false fun q => hc15 (Value.ref.inj q)) (by decide) (by decide) k) ?_
        refine own_by (T' := T14) (g' := (mkF m 26 #[.val (.ref t)] [(.int (0 : Int32))])) (fun _ k => XS.iconst X14.here hx rfl (hb hby own_d1_25) k) ?_
        have hn19 : nar .boolean (0 : Int32) = (0 : Int32) := rfl
        have hr20 : (0 : Int32) = (if t = w2 then (1 : Int32) else if t = w3 then (1 : Int32) else if t = w4 then (1 : Int32) else (0 : Int32)) := by simp [hc3, hc9, hc15]
        obtain ⟨fs21, hr21, hrun21, hended21, hW21, hsame21⟩ := X14.leave (v := some (.int (nar .boolean (0 : Int32)))) (fun h => by rw [Bd.returns] at h; cases h)
        refine ⟨_, _, retN X14 hx (t := .boolean) Bd.returns (by simp) (hb hby own_d1_26) hr21, hrun21, hended21, _, _, rfl, ?_, ⟨_, rfl⟩, hW21, hsame21.mono (by decide) (by decide)⟩
        show Q_rmT Z w0 w1 w2 w3 w4 w5 t h0 n0 _ T14.heap _
        exact ⟨(congrArg (fun z => some (Value.int z)) (hn19.trans hr20)), N0, e14⟩
theorem own_pd_0 : parseMethodDescriptor "()Z" = some ⟨[], some .boolean⟩ := by decide +kernel
theorem own_pn_com_example_dependency_wiring_dependencywiring_ShapeTakesAllPinLaw : plainName "com/example/dependency_wiring/dependencywiring/ShapeTakesAllPinLaw" = true := by first | (simp [plainName, overriddenIn]; done) | decide +kernel
theorem own_ef_rm0 (m : MethodId) (x0 : Int32) : entryFrame m #[(.int x0)] maxLocals = mkF m 0 #[.val (.int x0), .unset, .unset, .unset] [] := by first | (simp [entryFrame, mkF, argsToLocals, Value.category, maxLocals]; done) | rfl
def Q_rm0 (Z : State) (w0 : Addr) (w1 : Addr) (w2 : Addr) (w3 : Addr) (w4 : Addr) (w5 : Addr) (p0 : Int32) (h0 : Heap) (n0 : Nat) (v : Option Value) (h : Heap) (L : List Loc) : Prop := v = some (.int (1 : Int32)) ∧ Fr n0 L
set_option maxRecDepth 65536 in
set_option maxHeartbeats 40000000 in
theorem rm0 (l : Launch) (Z : State) (a0 : Array Value) (hw : ∀ d ∈ tables_1, d.before a0 Z = true) (ws : List Jvm.Cond) (w0 : Addr) (w1 : Addr) (w2 : Addr) (w3 : Addr) (w4 : Addr) (w5 : Addr) (GS : Glob Z w0 w1 w2 w3 w4 w5) (p0 : Int32) (h0 : Heap) (n0 : Nat) (Z0 : n0 ≤ h0.size) (O0 : Old Z n0 h0) :
    MetFree l x (head1 (Jvm.Cond.code x code maxLocals ret :: ws) room_1) (fun a U => a = #[(.int p0)] ∧ Z.Warmed39 U.vm ∧ U.heap = h0) (fun _ _ _ _ _ => True) (fun _ U o U' => ∃ v L, o = .returned v ∧ Q_rm0 Z w0 w1 w2 w3 w4 w5 p0 h0 n0 v U'.heap L ∧ FrameEnd U o U' L 0 0) := by
  refine MetFree.of_bodySF (plainFor_of_name own_pn_com_example_dependency_wiring_dependencywiring_ShapeTakesAllPinLaw) hisR ?_
  intro p e s m args below meth c s₁ Bd hml0 hP hK
  obtain ⟨rfl, hZ, hh⟩ := hP
  have hx := Bd.exec
  have hby := Bd.bytes
  have hml : c.maxLocals = 4 := hml0
  have hown : s.vm.findClass "com/example/dependency_wiring/dependencywiring/ShapeTakesAllPinLaw" = some m.cls := findClass_of_methodNamed Bd.named
  have hnm := (name_of_methodNamed Bd.named Bd.method).1
  have X0 : Stand p l e room_1 s m #[(.int p0)] below meth c s₁ [] 0 0 := Stand.of_body Bd
  have e0 : s₁.heap = h0 := by rw [← hh, Bd.state]; rfl
  have N0 := Fr.nil n0
  have hn0 : Z.heap.size = n0 := O0.1
  have KT0 : Keep h0 h0 [] := Keep.refl _ _
  refine own_enter (Φ := fun o U' => ∃ v L, o = .returned v ∧ Q_rm0 Z w0 w1 w2 w3 w4 w5 p0 h0 n0 v U'.heap L ∧ FrameEnd s o U' L 0 0) (own_ef_rm0 m p0) ?_
  have ne1 : w0 ≠ w2 := GS.2.2.2.2.2.2.2.2.2.2.2.2.1.ne GS.2.2.2.2.2.2.2.2.2.2.2.2.2.2.1 (by simp)
  have ne2 : w0 ≠ w3 := GS.2.2.2.2.2.2.2.2.2.2.2.2.1.ne GS.2.2.2.2.2.2.2.2.2.2.2.2.2.2.2.1 (by simp)
  have ne3 : w0 ≠ w4 := GS.2.2.2.2.2.2.2.2.2.2.2.2.1.ne GS.2.2.2.2.2.2.2.2.2.2.2.2.2.2.2.2.1 (by simp)
  have ne4 : w2 ≠ w3 := GS.2.2.2.2.2.2.2.2.2.2.2.2.2.2.1.ne GS.2.2.2.2.2.2.2.2.2.2.2.2.2.2.2.1 (by simp)
  have ne5 : w2 ≠ w4 := GS.2.2.2.2.2.2.2.2.2.2.2.2.2.2.1.ne GS.2.2.2.2.2.2.2.2.2.2.2.2.2.2.2.2.1 (by simp)
  have ne6 : w3 ≠ w2 := GS.2.2.2.2.2.2.2.2.2.2.2.2.2.2.2.1.ne GS.2.2.2.2.2.2.2.2.2.2.2.2.2.2.1 (by simp)
  have ne7 : w3 ≠ w4 := GS.2.2.2.2.2.2.2.2.2.2.2.2.2.2.2.1.ne GS.2.2.2.2.2.2.2.2.2.2.2.2.2.2.2.2.1 (by simp)
  have ne8 : w4 ≠ w2 := GS.2.2.2.2.2.2.2.2.2.2.2.2.2.2.2.2.1.ne GS.2.2.2.2.2.2.2.2.2.2.2.2.2.2.1 (by simp)
  have ne9 : w4 ≠ w3 := GS.2.2.2.2.2.2.2.2.2.2.2.2.2.2.2.2.1.ne GS.2.2.2.2.2.2.2.2.2.2.2.2.2.2.2.1 (by simp)
  have ne10 : w1 ≠ w2 := GS.2.2.2.2.2.2.2.2.2.2.2.2.2.1.ne GS.2.2.2.2.2.2.2.2.2.2.2.2.2.2.1 (by simp)
  have ne11 : w1 ≠ w3 := GS.2.2.2.2.2.2.2.2.2.2.2.2.2.1.ne GS.2.2.2.2.2.2.2.2.2.2.2.2.2.2.2.1 (by simp)
  have ne12 : w1 ≠ w4 := GS.2.2.2.2.2.2.2.2.2.2.2.2.2.1.ne GS.2.2.2.2.2.2.2.2.2.2.2.2.2.2.2.2.1 (by simp)
  have ne13 : w5 ≠ w2 := GS.2.2.2.2.2.2.2.2.2.2.2.2.2.2.2.2.2.ne GS.2.2.2.2.2.2.2.2.2.2.2.2.2.2.1 (by simp)
  have ne14 : w5 ≠ w3 := GS.2.2.2.2.2.2.2.2.2.2.2.2.2.2.2.2.2.ne GS.2.2.2.2.2.2.2.2.2.2.2.2.2.2.2.1 (by simp)
  have ne15 : w5 ≠ w4 := GS.2.2.2.2.2.2.2.2.2.2.2.2.2.2.2.2.2.ne GS.2.2.2.2.2.2.2.2.2.2.2.2.2.2.2.2.1 (by simp)
  refine own_by (T' := s₁) (g' := (mkF m 1 #[.val (.int p0), .unset, .unset, .unset] [(.int p0)])) (fun _ k => XS.iloadN X0.here hx rfl (hb hby at_0) rfl k) ?_
  refine own_by (T' := s₁) (g' := (mkF m 3 #[.val (.int p0), .unset, .unset, .unset] [(.int (2147483647 : Int32)), (.int p0)])) (fun _ k => X0.ldcInt hx hown (mvT hZ (hw _ (List.mem_of_getElem? (i := 0) rfl))) (g := (mkF m 1 #[.val (.int p0), .unset, .unset, .unset] [(.int p0)])) rfl (hb hby at_1) _ k) ?_
  refine own_by (T' := s₁) (g' := (mkF m 4 #[.val (.int p0), .unset, .unset, .unset] [(.int (p0 &&& (2147483647 : Int32)))])) (fun _ k => XS.iand X0.here hx rfl (hb hby at_3) rfl k) ?_
  refine own_by (T' := s₁) (g' := (mkF m 6 #[.val (.int p0), .unset, .unset, .unset] [(.int (6 : Int32)), (.int (p0 &&& (2147483647 : Int32)))])) (fun _ k => XS.bipush X0.here hx rfl (hb hby at_4) k) ?_
  refine own_by (T' := s₁) (g' := (mkF m 7 #[.val (.int p0), .unset, .unset, .unset] [(.int ((p0 &&& (2147483647 : Int32)) % (6 : Int32)))])) (fun _ k => iremM X0 hx rfl (hb hby at_6) rfl (by decide) k) ?_
  refine own_by (T' := s₁) (g' := (mkF m 8 #[.val (.int p0), .val (.int ((p0 &&& (2147483647 : Int32)) % (6 : Int32))), .unset, .unset] [])) (fun _ k => XS.istoreN X0.here hx rfl (hb hby at_7) rfl (l' := #[.val (.int p0), .val (.int ((p0 &&& (2147483647 : Int32)) % (6 : Int32))), .unset, .unset]) rfl k) ?_
  refine own_by (T' := s₁) (g' := (mkF m 9 #[.val (.int p0), .val (.int ((p0 &&& (2147483647 : Int32)) % (6 : Int32))), .unset, .unset] [(.int ((p0 &&& (2147483647 : Int32)) % (6 : Int32)))])) (fun _ k => XS.iloadN X0.here hx rfl (hb hby at_8) rfl k) ?_
  by_cases hc17 : ((p0 &&& (2147483647 : Int32)) % (6 : Int32)) = (0 : Int32)
  · refine own_by (T' := s₁) (g' := (mkF m 12 #[.val (.int p0), .val (.int ((p0 &&& (2147483647 : Int32)) % (6 : Int32))), .unset, .unset] [])) (fun _ k => XS.ifNo X0.here hx rfl (hb hby at_9) rfl (XT.i0_ne_f hc17) k) ?_
    have f18 := GS.1.ext O0.2
    obtain ⟨T19, X19, e19, st19⟩ := getS2 X0 hx hZ hown (host := "") (Or.inl (hw _ (List.mem_of_getElem? (i := 1) rfl))) Via.refl e0 f18 (g := (mkF m 12 #[.val (.int p0), .val (.int ((p0 &&& (2147483647 : Int32)) % (6 : Int32))), .unset, .unset] [])) rfl (hb hby at_12)
    refine own_by (T' := T19) (g' := (mkF m 15 #[.val (.int p0), .val (.int ((p0 &&& (2147483647 : Int32)) % (6 : Int32))), .unset, .unset] [(.ref w0)])) st19 ?_
    refine own_by (T' := T19) (g' := (mkF m 16 #[.val (.int p0), .val (.int ((p0 &&& (2147483647 : Int32)) % (6 : Int32))), .val (.ref w0), .unset] [])) (fun _ k => XS.astoreN X19.here hx rfl (hb hby at_15) rfl rfl (l' := #[.val (.int p0), .val (.int ((p0 &&& (2147483647 : Int32)) % (6 : Int32))), .val (.ref w0), .unset]) rfl k) ?_
    refine own_by (T' := T19) (g' := (mkF m 17 #[.val (.int p0), .val (.int ((p0 &&& (2147483647 : Int32)) % (6 : Int32))), .val (.ref w0), .unset] [(.int (0 : Int32))])) (fun _ k => XS.iconst X19.here hx rfl (hb hby at_16) k) ?_
    refine own_by (T' := T19) (g' := (mkF m 18 #[.val (.int p0), .val (.int ((p0 &&& (2147483647 : Int32)) % (6 : Int32))), .val (.ref w0), .val (.int (0 : Int32))] [])) (fun _ k => XS.istoreN X19.here hx rfl (hb hby at_17) rfl (l' := #[.val (.int p0), .val (.int ((p0 &&& (2147483647 : Int32)) % (6 : Int32))), .val (.ref w0), .val (.int (0 : Int32))]) rfl k) ?_
    refine own_by (T' := T19) (g' := (mkF m 83 #[.val (.int p0), .val (.int ((p0 &&& (2147483647 : Int32)) % (6 : Int32))), .val (.ref w0), .val (.int (0 : Int32))] [])) (fun _ k => XS.goto X19.here hx rfl (pc0 := 18) (pc' := 83) rfl (hb hby at_18) (by decide) (by decide) k) ?_
    refine own_by (T' := T19) (g' := (mkF m 84 #[.val (.int p0), .val (.int ((p0 &&& (2147483647 : Int32)) % (6 : Int32))), .val (.ref w0), .val (.int (0 : Int32))] [(.ref w0)])) (fun _ k => XS.aloadN X19.here hx rfl (hb hby at_83) rfl rfl k) ?_
    have f21 := GS.2.2.2.2.2.2.1.ext O0.2
    obtain ⟨cq20, kq20, q20a, q20b, q20c⟩ := isOf hZ e19 f21
    obtain ⟨_, _, ⟨T20, L20, k20, n20⟩, -, X20, ⟨Lc20, hQ20, l20, y20, z20⟩, st20⟩ := X19.virtualBack hx (y := (⟨"com/example/dependency_wiring/dependencywiring/InjectionPoint$Shape", "takesAll", "()Z"⟩ : MethodName)) (z := (⟨"com/example/dependency_wiring/dependencywiring/InjectionPoint$Shape", "takesAll", "()Z"⟩ : MethodName)) hown (mvT hZ (hw _ (List.mem_of_getElem? (i := 4) rfl))) (mvT hZ (hw _ (List.mem_of_getElem? (i := 5) rfl))) (notFace_of_selects (args := #[]) (mvT hZ (hw _ (List.mem_of_getElem? (i := 7) rfl)))) (mvT hZ (hw _ (List.mem_of_getElem? (i := 7) rfl))) (mvT hZ (hw _ (List.mem_of_getElem? (i := 6) rfl))) (by decide) (backOf (W := 0) (rmT l Z a0 hw [] w0 w1 w2 w3 w4 w5 GS w0 h0 n0 (by omega) O0 ) hZ (hw _ (List.mem_of_getElem? (i := 8) rfl)) (hw _ (List.mem_of_getElem? (i := 2) rfl)) (by decide) (by decide)) q20a q20c (g := (mkF m 84 #[.val (.int p0), .val (.int ((p0 &&& (2147483647 : Int32)) % (6 : Int32))), .val (.ref w0), .val (.int (0 : Int32))] [(.ref w0)])) rfl (by rw [hml]; rfl) (Steps.refl _) (argsL := []) (rest := []) (lenOf own_pd_0 rfl) rfl (by show 2 * 0 + _ ≤ _; exact Nat.le_of_eq rfl) (hb hby at_84) (fun _ _ => ⟨rfl, e19, (by decide : 0 + 0 ≤ _), (by decide : 0 + 0 ≤ _)⟩)
    dsimp only [Pt.U, Pt.locs, Pt.cells, Pt.slots] at X20 l20 y20 z20 st20 hQ20
    subst l20 y20 z20
    obtain ⟨rfl, N20q, e20⟩ := hQ20
    have N22 := Fr.app N0 N20q
    refine own_by (T' := T20) (g' := (mkF m 87 #[.val (.int p0), .val (.int ((p0 &&& (2147483647 : Int32)) % (6 : Int32))), .val (.ref w0), .val (.int (0 : Int32))] [(.int (if w0 = w2 then (1 : Int32) else if w0 = w3 then (1 : Int32) else if w0 = w4 then (1 : Int32) else (0 : Int32)))])) (fun _ k => st20.trans k) ?_
    refine own_by (T' := T20) (g' := (mkF m 88 #[.val (.int p0), .val (.int ((p0 &&& (2147483647 : Int32)) % (6 : Int32))), .val (.ref w0), .val (.int (0 : Int32))] [(.int (0 : Int32)), (.int (if w0 = w2 then (1 : Int32) else if w0 = w3 then (1 : Int32) else if w0 = w4 then (1 : Int32) else (0 : Int32)))])) (fun _ k => XS.iloadN X20.here hx rfl (hb hby at_87) rfl k) ?_
    refine own_by (T' := T20) (g' := (mkF m 91 #[.val (.int p0), .val (.int ((p0 &&& (2147483647 : Int32)) % (6 : Int32))), .val (.ref w0), .val (.int (0 : Int32))] [])) (fun _ k => XS.icmpNo X20.here hx rfl (hb hby at_88) rfl (XT.ii_ne_f (by simp [ne1, ne2, ne3, (Ne.symm ne6), (Ne.symm ne8), ne6, (Ne.symm ne9), ne8, ne9, ne10, ne11, ne12, ne13, ne14, ne15])) k) ?_
    refine own_by (T' := T20) (g' := (mkF m 92 #[.val (.int p0), .val (.int ((p0 &&& (2147483647 : Int32)) % (6 : Int32))), .val (.ref w0), .val (.int (0 : Int32))] [(.int (1 : Int32))])) (fun _ k => XS.iconst X20.here hx rfl (hb hby at_91) k) ?_
    refine own_by (T' := T20) (g' := (mkF m 96 #[.val (.int p0), .val (.int ((p0 &&& (2147483647 : Int32)) % (6 : Int32))), .val (.ref w0), .val (.int (0 : Int32))] [(.int (1 : Int32))])) (fun _ k => XS.goto X20.here hx rfl (pc0 := 92) (pc' := 96) rfl (hb hby at_92) (by decide) (by decide) k) ?_
    have hn23 : nar .boolean (1 : Int32) = (1 : Int32) := rfl
    obtain ⟨fs24, hr24, hrun24, hended24, hW24, hsame24⟩ := X20.leave (v := some (.int (nar .boolean (1 : Int32)))) (fun h => by rw [Bd.returns] at h; cases h)
    refine ⟨_, _, retN X20 hx (t := .boolean) Bd.returns (by simp) (hb hby at_96) hr24, hrun24, hended24, _, _, rfl, ?_, ⟨_, rfl⟩, hW24, hsame24.mono (by decide) (by decide)⟩
    show Q_rm0 Z w0 w1 w2 w3 w4 w5 p0 h0 n0 _ T20.heap _
    exact ⟨(congrArg (fun z => some (Value.int z)) hn23), N22⟩
  · refine own_by (T' := s₁) (g' := (mkF m 21 #[.val (.int p0), .val (.int ((p0 &&& (2147483647 : Int32)) % (6 : Int32))), .unset, .unset] [])) (fun _ k => XS.ifYes X0.here hx rfl (pc0 := 9) (pc' := 21) rfl (hb hby at_9) rfl (XT.i0_ne_t hc17) (by decide) (by decide) k) ?_
    refine own_by (T' := s₁) (g' := (mkF m 22 #[.val (.int p0), .val (.int ((p0 &&& (2147483647 : Int32)) % (6 : Int32))), .unset, .unset] [(.int ((p0 &&& (2147483647 : Int32)) % (6 : Int32)))])) (fun _ k => XS.iloadN X0.here hx rfl (hb hby at_21) rfl k) ?_
    refine own_by (T' := s₁) (g' := (mkF m 23 #[.val (.int p0), .val (.int ((p0 &&& (2147483647 : Int32)) % (6 : Int32))), .unset, .unset] [(.int (1 : Int32)), (.int ((p0 &&& (2147483647 : Int32)) % (6 : Int32)))])) (fun _ k => XS.iconst X0.here hx rfl (hb hby at_22) k) ?_
    by_cases hc25 : ((p0 &&& (2147483647 : Int32)) % (6 : Int32)) = (1 : Int32)
    · refine own_by (T' := s₁) (g' := (mkF m 26 #[.val (.int p0), .val (.int ((p0 &&& (2147483647 : Int32)) % (6 : Int32))), .unset, .unset] [])) (fun _ k => XS.icmpNo X0.here hx rfl (hb hby at_23) rfl (XT.ii_ne_f hc25) k) ?_
      have f26 := GS.2.1.ext O0.2
      obtain ⟨T27, X27, e27, st27⟩ := getS2 X0 hx hZ hown (host := "") (Or.inl (hw _ (List.mem_of_getElem? (i := 17) rfl))) Via.refl e0 f26 (g := (mkF m 26 #[.val (.int p0), .val (.int ((p0 &&& (2147483647 : Int32)) % (6 : Int32))), .unset, .unset] [])) rfl (hb hby at_26)
      refine own_by (T' := T27) (g' := (mkF m 29 #[.val (.int p0), .val (.int ((p0 &&& (2147483647 : Int32)) % (6 : Int32))), .unset, .unset] [(.ref w1)])) st27 ?_
      refine own_by (T' := T27) (g' := (mkF m 30 #[.val (.int p0), .val (.int ((p0 &&& (2147483647 : Int32)) % (6 : Int32))), .val (.ref w1), .unset] [])) (fun _ k => XS.astoreN X27.here hx rfl (hb hby at_29) rfl rfl (l' := #[.val (.int p0), .val (.int ((p0 &&& (2147483647 : Int32)) % (6 : Int32))), .val (.ref w1), .unset]) rfl k) ?_
      refine own_by (T' := T27) (g' := (mkF m 31 #[.val (.int p0), .val (.int ((p0 &&& (2147483647 : Int32)) % (6 : Int32))), .val (.ref w1), .unset] [(.int (0 : Int32))])) (fun _ k => XS.iconst X27.here hx rfl (hb hby at_30) k) ?_
      refine own_by (T' := T27) (g' := (mkF m 32 #[.val (.int p0), .val (.int ((p0 &&& (2147483647 : Int32)) % (6 : Int32))), .val (.ref w1), .val (.int (0 : Int32))] [])) (fun _ k => XS.istoreN X27.here hx rfl (hb hby at_31) rfl (l' := #[.val (.int p0), .val (.int ((p0 &&& (2147483647 : Int32)) % (6 : Int32))), .val (.ref w1), .val (.int (0 : Int32))]) rfl k) ?_
      refine own_by (T' := T27) (g' := (mkF m 83 #[.val (.int p0), .val (.int ((p0 &&& (2147483647 : Int32)) % (6 : Int32))), .val (.ref w1), .val (.int (0 : Int32))] [])) (fun _ k => XS.goto X27.here hx rfl (pc0 := 32) (pc' := 83) rfl (hb hby at_32) (by decide) (by decide) k) ?_
      refine own_by (T' := T27) (g' := (mkF m 84 #[.val (.int p0), .val (.int ((p0 &&& (2147483647 : Int32)) % (6 : Int32))), .val (.ref w1), .val (.int (0 : Int32))] [(.ref w1)])) (fun _ k => XS.aloadN X27.here hx rfl (hb hby at_83) rfl rfl k) ?_
      have f29 := GS.2.2.2.2.2.2.2.1.ext O0.2
      obtain ⟨cq28, kq28, q28a, q28b, q28c⟩ := isOf hZ e27 f29
      obtain ⟨_, _, ⟨T28, L28, k28, n28⟩, -, X28, ⟨Lc28, hQ28, l28, y28, z28⟩, st28⟩ := X27.virtualBack hx (y := (⟨"com/example/dependency_wiring/dependencywiring/InjectionPoint$Shape", "takesAll", "()Z"⟩ : MethodName)) (z := (⟨"com/example/dependency_wiring/dependencywiring/InjectionPoint$Shape", "takesAll", "()Z"⟩ : MethodName)) hown (mvT hZ (hw _ (List.mem_of_getElem? (i := 4) rfl))) (mvT hZ (hw _ (List.mem_of_getElem? (i := 5) rfl))) (notFace_of_selects (args := #[]) (mvT hZ (hw _ (List.mem_of_getElem? (i := 7) rfl)))) (mvT hZ (hw _ (List.mem_of_getElem? (i := 7) rfl))) (mvT hZ (hw _ (List.mem_of_getElem? (i := 6) rfl))) (by decide) (backOf (W := 0) (rmT l Z a0 hw [] w0 w1 w2 w3 w4 w5 GS w1 h0 n0 (by omega) O0 ) hZ (hw _ (List.mem_of_getElem? (i := 8) rfl)) (hw _ (List.mem_of_getElem? (i := 2) rfl)) (by decide) (by decide)) q28a q28c (g := (mkF m 84 #[.val (.int p0), .val (.int ((p0 &&& (2147483647 : Int32)) % (6 : Int32))), .val (.ref w1), .val (.int (0 : Int32))] [(.ref w1)])) rfl (by rw [hml]; rfl) (Steps.refl _) (argsL := []) (rest := []) (lenOf own_pd_0 rfl) rfl (by show 2 * 0 + _ ≤ _; exact Nat.le_of_eq rfl) (hb hby at_84) (fun _ _ => ⟨rfl, e27, (by decide : 0 + 0 ≤ _), (by decide : 0 + 0 ≤ _)⟩)
      dsimp only [Pt.U, Pt.locs, Pt.cells, Pt.slots] at X28 l28 y28 z28 st28 hQ28
      subst l28 y28 z28
      obtain ⟨rfl, N28q, e28⟩ := hQ28
      have N30 := Fr.app N0 N28q
      refine own_by (T' := T28) (g' := (mkF m 87 #[.val (.int p0), .val (.int ((p0 &&& (2147483647 : Int32)) % (6 : Int32))), .val (.ref w1), .val (.int (0 : Int32))] [(.int (if w1 = w2 then (1 : Int32) else if w1 = w3 then (1 : Int32) else if w1 = w4 then (1 : Int32) else (0 : Int32)))])) (fun _ k => st28.trans k) ?_
      refine own_by (T' := T28) (g' := (mkF m 88 #[.val (.int p0), .val (.int ((p0 &&& (2147483647 : Int32)) % (6 : Int32))), .val (.ref w1), .val (.int (0 : Int32))] [(.int (0 : Int32)), (.int (if w1 = w2 then (1 : Int32) else if w1 = w3 then (1 : Int32) else if w1 = w4 then (1 : Int32) else (0 : Int32)))])) (fun _ k => XS.iloadN X28.here hx rfl (hb hby at_87) rfl k) ?_
      refine own_by (T' := T28) (g' := (mkF m 91 #[.val (.int p0), .val (.int ((p0 &&& (2147483647 : Int32)) % (6 : Int32))), .val (.ref w1), .val (.int (0 : Int32))] [])) (fun _ k => XS.icmpNo X28.here hx rfl (hb hby at_88) rfl (XT.ii_ne_f (by simp [ne1, ne2, ne3, (Ne.symm ne6), (Ne.symm ne8), ne6, (Ne.symm ne9), ne8, ne9, ne10, ne11, ne12, ne13, ne14, ne15])) k) ?_
      refine own_by (T' := T28) (g' := (mkF m 92 #[.val (.int p0), .val (.int ((p0 &&& (2147483647 : Int32)) % (6 : Int32))), .val (.ref w1), .val (.int (0 : Int32))] [(.int (1 : Int32))])) (fun _ k => XS.iconst X28.here hx rfl (hb hby at_91) k) ?_
      refine own_by (T' := T28) (g' := (mkF m 96 #[.val (.int p0), .val (.int ((p0 &&& (2147483647 : Int32)) % (6 : Int32))), .val (.ref w1), .val (.int (0 : Int32))] [(.int (1 : Int32))])) (fun _ k => XS.goto X28.here hx rfl (pc0 := 92) (pc' := 96) rfl (hb hby at_92) (by decide) (by decide) k) ?_
      have hn31 : nar .boolean (1 : Int32) = (1 : Int32) := rfl
      obtain ⟨fs32, hr32, hrun32, hended32, hW32, hsame32⟩ := X28.leave (v := some (.int (nar .boolean (1 : Int32)))) (fun h => by rw [Bd.returns] at h; cases h)
      refine ⟨_, _, retN X28 hx (t := .boolean) Bd.returns (by simp) (hb hby at_96) hr32, hrun32, hended32, _, _, rfl, ?_, ⟨_, rfl⟩, hW32, hsame32.mono (by decide) (by decide)⟩
      show Q_rm0 Z w0 w1 w2 w3 w4 w5 p0 h0 n0 _ T28.heap _
      exact ⟨(congrArg (fun z => some (Value.int z)) hn31), N30⟩
    · refine own_by (T' := s₁) (g' := (mkF m 35 #[.val (.int p0), .val (.int ((p0 &&& (2147483647 : Int32)) % (6 : Int32))), .unset, .unset] [])) (fun _ k => XS.icmpYes X0.here hx rfl (pc0 := 23) (pc' := 35) rfl (hb hby at_23) rfl (XT.ii_ne_t hc25) (by decide) (by decide) k) ?_
      refine own_by (T' := s₁) (g' := (mkF m 36 #[.val (.int p0), .val (.int ((p0 &&& (2147483647 : Int32)) % (6 : Int32))), .unset, .unset] [(.int ((p0 &&& (2147483647 : Int32)) % (6 : Int32)))])) (fun _ k => XS.iloadN X0.here hx rfl (hb hby at_35) rfl k) ?_
      refine own_by (T' := s₁) (g' := (mkF m 37 #[.val (.int p0), .val (.int ((p0 &&& (2147483647 : Int32)) % (6 : Int32))), .unset, .unset] [(.int (2 : Int32)), (.int ((p0 &&& (2147483647 : Int32)) % (6 : Int32)))])) (fun _ k => XS.iconst X0.here hx rfl (hb hby at_36) k) ?_
      by_cases hc33 : ((p0 &&& (2147483647 : Int32)) % (6 : Int32)) = (2 : Int32)
      · refine own_by (T' := s₁) (g' := (mkF m 40 #[.val (.int p0), .val (.int ((p0 &&& (2147483647 : Int32)) % (6 : Int32))), .unset, .unset] [])) (fun _ k => XS.icmpNo X0.here hx rfl (hb hby at_37) rfl (XT.ii_ne_f hc33) k) ?_
        have f34 := GS.2.2.1.ext O0.2
        obtain ⟨T35, X35, e35, st35⟩ := getS2 X0 hx hZ hown (host := "") (Or.inl (hw _ (List.mem_of_getElem? (i := 16) rfl))) Via.refl e0 f34 (g := (mkF m 40 #[.val (.int p0), .val (.int ((p0 &&& (2147483647 : Int32)) % (6 : Int32))), .unset, .unset] [])) rfl (hb hby at_40)
        refine own_by (T' := T35) (g' := (mkF m 43 #[.val (.int p0), .val (.int ((p0 &&& (2147483647 : Int32)) % (6 : Int32))), .unset, .unset] [(.ref w2)])) st35 ?_
        refine own_by (T' := T35) (g' := (mkF m 44 #[.val (.int p0), .val (.int ((p0 &&& (2147483647 : Int32)) % (6 : Int32))), .val (.ref w2), .unset] [])) (fun _ k => XS.astoreN X35.here hx rfl (hb hby at_43) rfl rfl (l' := #[.val (.int p0), .val (.int ((p0 &&& (2147483647 : Int32)) % (6 : Int32))), .val (.ref w2), .unset]) rfl k) ?_
        refine own_by (T' := T35) (g' := (mkF m 45 #[.val (.int p0), .val (.int ((p0 &&& (2147483647 : Int32)) % (6 : Int32))), .val (.ref w2), .unset] [(.int (1 : Int32))])) (fun _ k => XS.iconst X35.here hx rfl (hb hby at_44) k) ?_
        refine own_by (T' := T35) (g' := (mkF m 46 #[.val (.int p0), .val (.int ((p0 &&& (2147483647 : Int32)) % (6 : Int32))), .val (.ref w2), .val (.int (1 : Int32))] [])) (fun _ k => XS.istoreN X35.here hx rfl (hb hby at_45) rfl (l' := #[.val (.int p0), .val (.int ((p0 &&& (2147483647 : Int32)) % (6 : Int32))), .val (.ref w2), .val (.int (1 : Int32))]) rfl k) ?_
        refine own_by (T' := T35) (g' := (mkF m 83 #[.val (.int p0), .val (.int ((p0 &&& (2147483647 : Int32)) % (6 : Int32))), .val (.ref w2), .val (.int (1 : Int32))] [])) (fun _ k => XS.goto X35.here hx rfl (pc0 := 46) (pc' := 83) rfl (hb hby at_46) (by decide) (by decide) k) ?_
        refine own_by (T' := T35) (g' := (mkF m 84 #[.val (.int p0), .val (.int ((p0 &&& (2147483647 : Int32)) % (6 : Int32))), .val (.ref w2), .val (.int (1 : Int32))] [(.ref w2)])) (fun _ k => XS.aloadN X35.here hx rfl (hb hby at_83) rfl rfl k) ?_
        have f37 := GS.2.2.2.2.2.2.2.2.1.ext O0.2
        obtain ⟨cq36, kq36, q36a, q36b, q36c⟩ := isOf hZ e35 f37
        obtain ⟨_, _, ⟨T36, L36, k36, n36⟩, -, X36, ⟨Lc36, hQ36, l36, y36, z36⟩, st36⟩ := X35.virtualBack hx (y := (⟨"com/example/dependency_wiring/dependencywiring/InjectionPoint$Shape", "takesAll", "()Z"⟩ : MethodName)) (z := (⟨"com/example/dependency_wiring/dependencywiring/InjectionPoint$Shape", "takesAll", "()Z"⟩ : MethodName)) hown (mvT hZ (hw _ (List.mem_of_getElem? (i := 4) rfl))) (mvT hZ (hw _ (List.mem_of_getElem? (i := 5) rfl))) (notFace_of_selects (args := #[]) (mvT hZ (hw _ (List.mem_of_getElem? (i := 7) rfl)))) (mvT hZ (hw _ (List.mem_of_getElem? (i := 7) rfl))) (mvT hZ (hw _ (List.mem_of_getElem? (i := 6) rfl))) (by decide) (backOf (W := 0) (rmT l Z a0 hw [] w0 w1 w2 w3 w4 w5 GS w2 h0 n0 (by omega) O0 ) hZ (hw _ (List.mem_of_getElem? (i := 8) rfl)) (hw _ (List.mem_of_getElem? (i := 2) rfl)) (by decide) (by decide)) q36a q36c (g := (mkF m 84 #[.val (.int p0), .val (.int ((p0 &&& (2147483647 : Int32)) % (6 : Int32))), .val (.ref w2), .val (.int (1 : Int32))] [(.ref w2)])) rfl (by rw [hml]; rfl) (Steps.refl _) (argsL := []) (rest := []) (lenOf own_pd_0 rfl) rfl (by show 2 * 0 + _ ≤ _; exact Nat.le_of_eq rfl) (hb hby at_84) (fun _ _ => ⟨rfl, e35, (by decide : 0 + 0 ≤ _), (by decide : 0 + 0 ≤ _)⟩)
        dsimp only [Pt.U, Pt.locs, Pt.cells, Pt.slots] at X36 l36 y36 z36 st36 hQ36
        subst l36 y36 z36
        obtain ⟨rfl, N36q, e36⟩ := hQ36
        have N38 := Fr.app N0 N36q
        refine own_by (T' := T36) (g' := (mkF m 87 #[.val (.int p0), .val (.int ((p0 &&& (2147483647 : Int32)) % (6 : Int32))), .val (.ref w2), .val (.int (1 : Int32))] [(.int (if w2 = w2 then (1 : Int32) else if w2 = w3 then (1 : Int32) else if w2 = w4 then (1 : Int32) else (0 : Int32)))])) (fun _ k => st36.trans k) ?_
        refine own_by (T' := T36) (g' := (mkF m 88 #[.val (.int p0), .val (.int ((p0 &&& (2147483647 : Int32)) % (6 : Int32))), .val (.ref w2), .val (.int (1 : Int32))] [(.int (1 : Int32)), (.int (if w2 = w2 then (1 : Int32) else if w2 = w3 then (1 : Int32) else if w2 = w4 then (1 : Int32) else (0 : Int32)))])) (fun _ k => XS.iloadN X36.here hx rfl (hb hby at_87) rfl k) ?_
        refine own_by (T' := T36) (g' := (mkF m 91 #[.val (.int p0), .val (.int ((p0 &&& (2147483647 : Int32)) % (6 : Int32))), .val (.ref w2), .val (.int (1 : Int32))] [])) (fun _ k => XS.icmpNo X36.here hx rfl (hb hby at_88) rfl (XT.ii_ne_f (by simp [ne1, ne2, ne3, (Ne.symm ne6), (Ne.symm ne8), ne6, (Ne.symm ne9), ne8, ne9, ne10, ne11, ne12, ne13, ne14, ne15])) k) ?_
        refine own_by (T' := T36) (g' := (mkF m 92 #[.val (.int p0), .val (.int ((p0 &&& (2147483647 : Int32)) % (6 : Int32))), .val (.ref w2), .val (.int (1 : Int32))] [(.int (1 : Int32))])) (fun _ k => XS.iconst X36.here hx rfl (hb hby at_91) k) ?_
        refine own_by (T' := T36) (g' := (mkF m 96 #[.val (.int p0), .val (.int ((p0 &&& (2147483647 : Int32)) % (6 : Int32))), .val (.ref w2), .val (.int (1 : Int32))] [(.int (1 : Int32))])) (fun _ k => XS.goto X36.here hx rfl (pc0 := 92) (pc' := 96) rfl (hb hby at_92) (by decide) (by decide) k) ?_
        have hn39 : nar .boolean (1 : Int32) = (1 : Int32) := rfl
        obtain ⟨fs40, hr40, hrun40, hended40, hW40, hsame40⟩ := X36.leave (v := some (.int (nar .boolean (1 : Int32)))) (fun h => by rw [Bd.returns] at h; cases h)
        refine ⟨_, _, retN X36 hx (t := .boolean) Bd.returns (by simp) (hb hby at_96) hr40, hrun40, hended40, _, _, rfl, ?_, ⟨_, rfl⟩, hW40, hsame40.mono (by decide) (by decide)⟩
        show Q_rm0 Z w0 w1 w2 w3 w4 w5 p0 h0 n0 _ T36.heap _
        exact ⟨(congrArg (fun z => some (Value.int z)) hn39), N38⟩
      · refine own_by (T' := s₁) (g' := (mkF m 49 #[.val (.int p0), .val (.int ((p0 &&& (2147483647 : Int32)) % (6 : Int32))), .unset, .unset] [])) (fun _ k => XS.icmpYes X0.here hx rfl (pc0 := 37) (pc' := 49) rfl (hb hby at_37) rfl (XT.ii_ne_t hc33) (by decide) (by decide) k) ?_
        refine own_by (T' := s₁) (g' := (mkF m 50 #[.val (.int p0), .val (.int ((p0 &&& (2147483647 : Int32)) % (6 : Int32))), .unset, .unset] [(.int ((p0 &&& (2147483647 : Int32)) % (6 : Int32)))])) (fun _ k => XS.iloadN X0.here hx rfl (hb hby at_49) rfl k) ?_
        refine own_by (T' := s₁) (g' := (mkF m 51 #[.val (.int p0), .val (.int ((p0 &&& (2147483647 : Int32)) % (6 : Int32))), .unset, .unset] [(.int (3 : Int32)), (.int ((p0 &&& (2147483647 : Int32)) % (6 : Int32)))])) (fun _ k => XS.iconst X0.here hx rfl (hb hby at_50) k) ?_
        by_cases hc41 : ((p0 &&& (2147483647 : Int32)) % (6 : Int32)) = (3 : Int32)
        · refine own_by (T' := s₁) (g' := (mkF m 54 #[.val (.int p0), .val (.int ((p0 &&& (2147483647 : Int32)) % (6 : Int32))), .unset, .unset] [])) (fun _ k => XS.icmpNo X0.here hx rfl (hb hby at_51) rfl (XT.ii_ne_f hc41) k) ?_
          have f42 := GS.2.2.2.1.ext O0.2
          obtain ⟨T43, X43, e43, st43⟩ := getS2 X0 hx hZ hown (host := "") (Or.inl (hw _ (List.mem_of_getElem? (i := 15) rfl))) Via.refl e0 f42 (g := (mkF m 54 #[.val (.int p0), .val (.int ((p0 &&& (2147483647 : Int32)) % (6 : Int32))), .unset, .unset] [])) rfl (hb hby at_54)
          refine own_by (T' := T43) (g' := (mkF m 57 #[.val (.int p0), .val (.int ((p0 &&& (2147483647 : Int32)) % (6 : Int32))), .unset, .unset] [(.ref w3)])) st43 ?_
          refine own_by (T' := T43) (g' := (mkF m 58 #[.val (.int p0), .val (.int ((p0 &&& (2147483647 : Int32)) % (6 : Int32))), .val (.ref w3), .unset] [])) (fun _ k => XS.astoreN X43.here hx rfl (hb hby at_57) rfl rfl (l' := #[.val (.int p0), .val (.int ((p0 &&& (2147483647 : Int32)) % (6 : Int32))), .val (.ref w3), .unset]) rfl k) ?_
          refine own_by (T' := T43) (g' := (mkF m 59 #[.val (.int p0), .val (.int ((p0 &&& (2147483647 : Int32)) % (6 : Int32))), .val (.ref w3), .unset] [(.int (1 : Int32))])) (fun _ k => XS.iconst X43.here hx rfl (hb hby at_58) k) ?_
          refine own_by (T' := T43) (g' := (mkF m 60 #[.val (.int p0), .val (.int ((p0 &&& (2147483647 : Int32)) % (6 : Int32))), .val (.ref w3), .val (.int (1 : Int32))] [])) (fun _ k => XS.istoreN X43.here hx rfl (hb hby at_59) rfl (l' := #[.val (.int p0), .val (.int ((p0 &&& (2147483647 : Int32)) % (6 : Int32))), .val (.ref w3), .val (.int (1 : Int32))]) rfl k) ?_
          refine own_by (T' := T43) (g' := (mkF m 83 #[.val (.int p0), .val (.int ((p0 &&& (2147483647 : Int32)) % (6 : Int32))), .val (.ref w3), .val (.int (1 : Int32))] [])) (fun _ k => XS.goto X43.here hx rfl (pc0 := 60) (pc' := 83) rfl (hb hby at_60) (by decide) (by decide) k) ?_
          refine own_by (T' := T43) (g' := (mkF m 84 #[.val (.int p0), .val (.int ((p0 &&& (2147483647 : Int32)) % (6 : Int32))), .val (.ref w3), .val (.int (1 : Int32))] [(.ref w3)])) (fun _ k => XS.aloadN X43.here hx rfl (hb hby at_83) rfl rfl k) ?_
          have f45 := GS.2.2.2.2.2.2.2.2.2.1.ext O0.2
          obtain ⟨cq44, kq44, q44a, q44b, q44c⟩ := isOf hZ e43 f45
          obtain ⟨_, _, ⟨T44, L44, k44, n44⟩, -, X44, ⟨Lc44, hQ44, l44, y44, z44⟩, st44⟩ := X43.virtualBack hx (y := (⟨"com/example/dependency_wiring/dependencywiring/InjectionPoint$Shape", "takesAll", "()Z"⟩ : MethodName)) (z := (⟨"com/example/dependency_wiring/dependencywiring/InjectionPoint$Shape", "takesAll", "()Z"⟩ : MethodName)) hown (mvT hZ (hw _ (List.mem_of_getElem? (i := 4) rfl))) (mvT hZ (hw _ (List.mem_of_getElem? (i := 5) rfl))) (notFace_of_selects (args := #[]) (mvT hZ (hw _ (List.mem_of_getElem? (i := 7) rfl)))) (mvT hZ (hw _ (List.mem_of_getElem? (i := 7) rfl))) (mvT hZ (hw _ (List.mem_of_getElem? (i := 6) rfl))) (by decide) (backOf (W := 0) (rmT l Z a0 hw [] w0 w1 w2 w3 w4 w5 GS w3 h0 n0 (by omega) O0 ) hZ (hw _ (List.mem_of_getElem? (i := 8) rfl)) (hw _ (List.mem_of_getElem? (i := 2) rfl)) (by decide) (by decide)) q44a q44c (g := (mkF m 84 #[.val (.int p0), .val (.int ((p0 &&& (2147483647 : Int32)) % (6 : Int32))), .val (.ref w3), .val (.int (1 : Int32))] [(.ref w3)])) rfl (by rw [hml]; rfl) (Steps.refl _) (argsL := []) (rest := []) (lenOf own_pd_0 rfl) rfl (by show 2 * 0 + _ ≤ _; exact Nat.le_of_eq rfl) (hb hby at_84) (fun _ _ => ⟨rfl, e43, (by decide : 0 + 0 ≤ _), (by decide : 0 + 0 ≤ _)⟩)
          dsimp only [Pt.U, Pt.locs, Pt.cells, Pt.slots] at X44 l44 y44 z44 st44 hQ44
          subst l44 y44 z44
          obtain ⟨rfl, N44q, e44⟩ := hQ44
          have N46 := Fr.app N0 N44q
          refine own_by (T' := T44) (g' := (mkF m 87 #[.val (.int p0), .val (.int ((p0 &&& (2147483647 : Int32)) % (6 : Int32))), .val (.ref w3), .val (.int (1 : Int32))] [(.int (if w3 = w2 then (1 : Int32) else if w3 = w3 then (1 : Int32) else if w3 = w4 then (1 : Int32) else (0 : Int32)))])) (fun _ k => st44.trans k) ?_
          refine own_by (T' := T44) (g' := (mkF m 88 #[.val (.int p0), .val (.int ((p0 &&& (2147483647 : Int32)) % (6 : Int32))), .val (.ref w3), .val (.int (1 : Int32))] [(.int (1 : Int32)), (.int (if w3 = w2 then (1 : Int32) else if w3 = w3 then (1 : Int32) else if w3 = w4 then (1 : Int32) else (0 : Int32)))])) (fun _ k => XS.iloadN X44.here hx rfl (hb hby at_87) rfl k) ?_
          refine own_by (T' := T44) (g' := (mkF m 91 #[.val (.int p0), .val (.int ((p0 &&& (2147483647 : Int32)) % (6 : Int32))), .val (.ref w3), .val (.int (1 : Int32))] [])) (fun _ k => XS.icmpNo X44.here hx rfl (hb hby at_88) rfl (XT.ii_ne_f (by simp [ne1, ne2, ne3, (Ne.symm ne6), (Ne.symm ne8), ne6, (Ne.symm ne9), ne8, ne9, ne10, ne11, ne12, ne13, ne14, ne15])) k) ?_
          refine own_by (T' := T44) (g' := (mkF m 92 #[.val (.int p0), .val (.int ((p0 &&& (2147483647 : Int32)) % (6 : Int32))), .val (.ref w3), .val (.int (1 : Int32))] [(.int (1 : Int32))])) (fun _ k => XS.iconst X44.here hx rfl (hb hby at_91) k) ?_
          refine own_by (T' := T44) (g' := (mkF m 96 #[.val (.int p0), .val (.int ((p0 &&& (2147483647 : Int32)) % (6 : Int32))), .val (.ref w3), .val (.int (1 : Int32))] [(.int (1 : Int32))])) (fun _ k => XS.goto X44.here hx rfl (pc0 := 92) (pc' := 96) rfl (hb hby at_92) (by decide) (by decide) k) ?_
          have hn47 : nar .boolean (1 : Int32) = (1 : Int32) := rfl
          obtain ⟨fs48, hr48, hrun48, hended48, hW48, hsame48⟩ := X44.leave (v := some (.int (nar .boolean (1 : Int32)))) (fun h => by rw [Bd.returns] at h; cases h)
          refine ⟨_, _, retN X44 hx (t := .boolean) Bd.returns (by simp) (hb hby at_96) hr48, hrun48, hended48, _, _, rfl, ?_, ⟨_, rfl⟩, hW48, hsame48.mono (by decide) (by decide)⟩
          show Q_rm0 Z w0 w1 w2 w3 w4 w5 p0 h0 n0 _ T44.heap _
          exact ⟨(congrArg (fun z => some (Value.int z)) hn47), N46⟩
        · refine own_by (T' := s₁) (g' := (mkF m 63 #[.val (.int p0), .val (.int ((p0 &&& (2147483647 : Int32)) % (6 : Int32))), .unset, .unset] [])) (fun _ k => XS.icmpYes X0.here hx rfl (pc0 := 51) (pc' := 63) rfl (hb hby at_51) rfl (XT.ii_ne_t hc41) (by decide) (by decide) k) ?_
          refine own_by (T' := s₁) (g' := (mkF m 64 #[.val (.int p0), .val (.int ((p0 &&& (2147483647 : Int32)) % (6 : Int32))), .unset, .unset] [(.int ((p0 &&& (2147483647 : Int32)) % (6 : Int32)))])) (fun _ k => XS.iloadN X0.here hx rfl (hb hby at_63) rfl k) ?_
          refine own_by (T' := s₁) (g' := (mkF m 65 #[.val (.int p0), .val (.int ((p0 &&& (2147483647 : Int32)) % (6 : Int32))), .unset, .unset] [(.int (4 : Int32)), (.int ((p0 &&& (2147483647 : Int32)) % (6 : Int32)))])) (fun _ k => XS.iconst X0.here hx rfl (hb hby at_64) k) ?_
          by_cases hc49 : ((p0 &&& (2147483647 : Int32)) % (6 : Int32)) = (4 : Int32)
          · refine own_by (T' := s₁) (g' := (mkF m 68 #[.val (.int p0), .val (.int ((p0 &&& (2147483647 : Int32)) % (6 : Int32))), .unset, .unset] [])) (fun _ k => XS.icmpNo X0.here hx rfl (hb hby at_65) rfl (XT.ii_ne_f hc49) k) ?_
            have f50 := GS.2.2.2.2.1.ext O0.2
            obtain ⟨T51, X51, e51, st51⟩ := getS2 X0 hx hZ hown (host := "") (Or.inl (hw _ (List.mem_of_getElem? (i := 21) rfl))) Via.refl e0 f50 (g := (mkF m 68 #[.val (.int p0), .val (.int ((p0 &&& (2147483647 : Int32)) % (6 : Int32))), .unset, .unset] [])) rfl (hb hby at_68)
            refine own_by (T' := T51) (g' := (mkF m 71 #[.val (.int p0), .val (.int ((p0 &&& (2147483647 : Int32)) % (6 : Int32))), .unset, .unset] [(.ref w4)])) st51 ?_
            refine own_by (T' := T51) (g' := (mkF m 72 #[.val (.int p0), .val (.int ((p0 &&& (2147483647 : Int32)) % (6 : Int32))), .val (.ref w4), .unset] [])) (fun _ k => XS.astoreN X51.here hx rfl (hb hby at_71) rfl rfl (l' := #[.val (.int p0), .val (.int ((p0 &&& (2147483647 : Int32)) % (6 : Int32))), .val (.ref w4), .unset]) rfl k) ?_
            refine own_by (T' := T51) (g' := (mkF m 73 #[.val (.int p0), .val (.int ((p0 &&& (2147483647 : Int32)) % (6 : Int32))), .val (.ref w4), .unset] [(.int (1 : Int32))])) (fun _ k => XS.iconst X51.here hx rfl (hb hby at_72) k) ?_
            refine own_by (T' := T51) (g' := (mkF m 74 #[.val (.int p0), .val (.int ((p0 &&& (2147483647 : Int32)) % (6 : Int32))), .val (.ref w4), .val (.int (1 : Int32))] [])) (fun _ k => XS.istoreN X51.here hx rfl (hb hby at_73) rfl (l' := #[.val (.int p0), .val (.int ((p0 &&& (2147483647 : Int32)) % (6 : Int32))), .val (.ref w4), .val (.int (1 : Int32))]) rfl k) ?_
            refine own_by (T' := T51) (g' := (mkF m 83 #[.val (.int p0), .val (.int ((p0 &&& (2147483647 : Int32)) % (6 : Int32))), .val (.ref w4), .val (.int (1 : Int32))] [])) (fun _ k => XS.goto X51.here hx rfl (pc0 := 74) (pc' := 83) rfl (hb hby at_74) (by decide) (by decide) k) ?_
            refine own_by (T' := T51) (g' := (mkF m 84 #[.val (.int p0), .val (.int ((p0 &&& (2147483647 : Int32)) % (6 : Int32))), .val (.ref w4), .val (.int (1 : Int32))] [(.ref w4)])) (fun _ k => XS.aloadN X51.here hx rfl (hb hby at_83) rfl rfl k) ?_
            have f53 := GS.2.2.2.2.2.2.2.2.2.2.1.ext O0.2
            obtain ⟨cq52, kq52, q52a, q52b, q52c⟩ := isOf hZ e51 f53
            obtain ⟨_, _, ⟨T52, L52, k52, n52⟩, -, X52, ⟨Lc52, hQ52, l52, y52, z52⟩, st52⟩ := X51.virtualBack hx (y := (⟨"com/example/dependency_wiring/dependencywiring/InjectionPoint$Shape", "takesAll", "()Z"⟩ : MethodName)) (z := (⟨"com/example/dependency_wiring/dependencywiring/InjectionPoint$Shape", "takesAll", "()Z"⟩ : MethodName)) hown (mvT hZ (hw _ (List.mem_of_getElem? (i := 4) rfl))) (mvT hZ (hw _ (List.mem_of_getElem? (i := 5) rfl))) (notFace_of_selects (args := #[]) (mvT hZ (hw _ (List.mem_of_getElem? (i := 7) rfl)))) (mvT hZ (hw _ (List.mem_of_getElem? (i := 7) rfl))) (mvT hZ (hw _ (List.mem_of_getElem? (i := 6) rfl))) (by decide) (backOf (W := 0) (rmT l Z a0 hw [] w0 w1 w2 w3 w4 w5 GS w4 h0 n0 (by omega) O0 ) hZ (hw _ (List.mem_of_getElem? (i := 8) rfl)) (hw _ (List.mem_of_getElem? (i := 2) rfl)) (by decide) (by decide)) q52a q52c (g := (mkF m 84 #[.val (.int p0), .val (.int ((p0 &&& (2147483647 : Int32)) % (6 : Int32))), .val (.ref w4), .val (.int (1 : Int32))] [(.ref w4)])) rfl (by rw [hml]; rfl) (Steps.refl _) (argsL := []) (rest := []) (lenOf own_pd_0 rfl) rfl (by show 2 * 0 + _ ≤ _; exact Nat.le_of_eq rfl) (hb hby at_84) (fun _ _ => ⟨rfl, e51, (by decide : 0 + 0 ≤ _), (by decide : 0 + 0 ≤ _)⟩)
            dsimp only [Pt.U, Pt.locs, Pt.cells, Pt.slots] at X52 l52 y52 z52 st52 hQ52
            subst l52 y52 z52
            obtain ⟨rfl, N52q, e52⟩ := hQ52
            have N54 := Fr.app N0 N52q
            refine own_by (T' := T52) (g' := (mkF m 87 #[.val (.int p0), .val (.int ((p0 &&& (2147483647 : Int32)) % (6 : Int32))), .val (.ref w4), .val (.int (1 : Int32))] [(.int (if w4 = w2 then (1 : Int32) else if w4 = w3 then (1 : Int32) else if w4 = w4 then (1 : Int32) else (0 : Int32)))])) (fun _ k => st52.trans k) ?_
            refine own_by (T' := T52) (g' := (mkF m 88 #[.val (.int p0), .val (.int ((p0 &&& (2147483647 : Int32)) % (6 : Int32))), .val (.ref w4), .val (.int (1 : Int32))] [(.int (1 : Int32)), (.int (if w4 = w2 then (1 : Int32) else if w4 = w3 then (1 : Int32) else if w4 = w4 then (1 : Int32) else (0 : Int32)))])) (fun _ k => XS.iloadN X52.here hx rfl (hb hby at_87) rfl k) ?_
            refine own_by (T' := T52) (g' := (mkF m 91 #[.val (.int p0), .val (.int ((p0 &&& (2147483647 : Int32)) % (6 : Int32))), .val (.ref w4), .val (.int (1 : Int32))] [])) (fun _ k => XS.icmpNo X52.here hx rfl (hb hby at_88) rfl (XT.ii_ne_f (by simp [ne1, ne2, ne3, (Ne.symm ne6), (Ne.symm ne8), ne6, (Ne.symm ne9), ne8, ne9, ne10, ne11, ne12, ne13, ne14, ne15])) k) ?_
            refine own_by (T' := T52) (g' := (mkF m 92 #[.val (.int p0), .val (.int ((p0 &&& (2147483647 : Int32)) % (6 : Int32))), .val (.ref w4), .val (.int (1 : Int32))] [(.int (1 : Int32))])) (fun _ k => XS.iconst X52.here hx rfl (hb hby at_91) k) ?_
            refine own_by (T' := T52) (g' := (mkF m 96 #[.val (.int p0), .val (.int ((p0 &&& (2147483647 : Int32)) % (6 : Int32))), .val (.ref w4), .val (.int (1 : Int32))] [(.int (1 : Int32))])) (fun _ k => XS.goto X52.here hx rfl (pc0 := 92) (pc' := 96) rfl (hb hby at_92) (by decide) (by decide) k) ?_
            have hn55 : nar .boolean (1 : Int32) = (1 : Int32) := rfl
            obtain ⟨fs56, hr56, hrun56, hended56, hW56, hsame56⟩ := X52.leave (v := some (.int (nar .boolean (1 : Int32)))) (fun h => by rw [Bd.returns] at h; cases h)
            refine ⟨_, _, retN X52 hx (t := .boolean) Bd.returns (by simp) (hb hby at_96) hr56, hrun56, hended56, _, _, rfl, ?_, ⟨_, rfl⟩, hW56, hsame56.mono (by decide) (by decide)⟩
            show Q_rm0 Z w0 w1 w2 w3 w4 w5 p0 h0 n0 _ T52.heap _
            exact ⟨(congrArg (fun z => some (Value.int z)) hn55), N54⟩
          · refine own_by (T' := s₁) (g' := (mkF m 77 #[.val (.int p0), .val (.int ((p0 &&& (2147483647 : Int32)) % (6 : Int32))), .unset, .unset] [])) (fun _ k => XS.icmpYes X0.here hx rfl (pc0 := 65) (pc' := 77) rfl (hb hby at_65) rfl (XT.ii_ne_t hc49) (by decide) (by decide) k) ?_
            have f57 := GS.2.2.2.2.2.1.ext O0.2
            obtain ⟨T58, X58, e58, st58⟩ := getS2 X0 hx hZ hown (host := "") (Or.inl (hw _ (List.mem_of_getElem? (i := 19) rfl))) Via.refl e0 f57 (g := (mkF m 77 #[.val (.int p0), .val (.int ((p0 &&& (2147483647 : Int32)) % (6 : Int32))), .unset, .unset] [])) rfl (hb hby at_77)
            refine own_by (T' := T58) (g' := (mkF m 80 #[.val (.int p0), .val (.int ((p0 &&& (2147483647 : Int32)) % (6 : Int32))), .unset, .unset] [(.ref w5)])) st58 ?_
            refine own_by (T' := T58) (g' := (mkF m 81 #[.val (.int p0), .val (.int ((p0 &&& (2147483647 : Int32)) % (6 : Int32))), .val (.ref w5), .unset] [])) (fun _ k => XS.astoreN X58.here hx rfl (hb hby at_80) rfl rfl (l' := #[.val (.int p0), .val (.int ((p0 &&& (2147483647 : Int32)) % (6 : Int32))), .val (.ref w5), .unset]) rfl k) ?_
            refine own_by (T' := T58) (g' := (mkF m 82 #[.val (.int p0), .val (.int ((p0 &&& (2147483647 : Int32)) % (6 : Int32))), .val (.ref w5), .unset] [(.int (0 : Int32))])) (fun _ k => XS.iconst X58.here hx rfl (hb hby at_81) k) ?_
            refine own_by (T' := T58) (g' := (mkF m 83 #[.val (.int p0), .val (.int ((p0 &&& (2147483647 : Int32)) % (6 : Int32))), .val (.ref w5), .val (.int (0 : Int32))] [])) (fun _ k => XS.istoreN X58.here hx rfl (hb hby at_82) rfl (l' := #[.val (.int p0), .val (.int ((p0 &&& (2147483647 : Int32)) % (6 : Int32))), .val (.ref w5), .val (.int (0 : Int32))]) rfl k) ?_
            refine own_by (T' := T58) (g' := (mkF m 84 #[.val (.int p0), .val (.int ((p0 &&& (2147483647 : Int32)) % (6 : Int32))), .val (.ref w5), .val (.int (0 : Int32))] [(.ref w5)])) (fun _ k => XS.aloadN X58.here hx rfl (hb hby at_83) rfl rfl k) ?_
            have f60 := GS.2.2.2.2.2.2.2.2.2.2.2.1.ext O0.2
            obtain ⟨cq59, kq59, q59a, q59b, q59c⟩ := isOf hZ e58 f60
            obtain ⟨_, _, ⟨T59, L59, k59, n59⟩, -, X59, ⟨Lc59, hQ59, l59, y59, z59⟩, st59⟩ := X58.virtualBack hx (y := (⟨"com/example/dependency_wiring/dependencywiring/InjectionPoint$Shape", "takesAll", "()Z"⟩ : MethodName)) (z := (⟨"com/example/dependency_wiring/dependencywiring/InjectionPoint$Shape", "takesAll", "()Z"⟩ : MethodName)) hown (mvT hZ (hw _ (List.mem_of_getElem? (i := 4) rfl))) (mvT hZ (hw _ (List.mem_of_getElem? (i := 5) rfl))) (notFace_of_selects (args := #[]) (mvT hZ (hw _ (List.mem_of_getElem? (i := 7) rfl)))) (mvT hZ (hw _ (List.mem_of_getElem? (i := 7) rfl))) (mvT hZ (hw _ (List.mem_of_getElem? (i := 6) rfl))) (by decide) (backOf (W := 0) (rmT l Z a0 hw [] w0 w1 w2 w3 w4 w5 GS w5 h0 n0 (by omega) O0 ) hZ (hw _ (List.mem_of_getElem? (i := 8) rfl)) (hw _ (List.mem_of_getElem? (i := 2) rfl)) (by decide) (by decide)) q59a q59c (g := (mkF m 84 #[.val (.int p0), .val (.int ((p0 &&& (2147483647 : Int32)) % (6 : Int32))), .val (.ref w5), .val (.int (0 : Int32))] [(.ref w5)])) rfl (by rw [hml]; rfl) (Steps.refl _) (argsL := []) (rest := []) (lenOf own_pd_0 rfl) rfl (by show 2 * 0 + _ ≤ _; exact Nat.le_of_eq rfl) (hb hby at_84) (fun _ _ => ⟨rfl, e58, (by decide : 0 + 0 ≤ _), (by decide : 0 + 0 ≤ _)⟩)
            dsimp only [Pt.U, Pt.locs, Pt.cells, Pt.slots] at X59 l59 y59 z59 st59 hQ59
            subst l59 y59 z59
            obtain ⟨rfl, N59q, e59⟩ := hQ59
            have N61 := Fr.app N0 N59q
            refine own_by (T' := T59) (g' := (mkF m 87 #[.val (.int p0), .val (.int ((p0 &&& (2147483647 : Int32)) % (6 : Int32))), .val (.ref w5), .val (.int (0 : Int32))] [(.int (if w5 = w2 then (1 : Int32) else if w5 = w3 then (1 : Int32) else if w5 = w4 then (1 : Int32) else (0 : Int32)))])) (fun _ k => st59.trans k) ?_
            refine own_by (T' := T59) (g' := (mkF m 88 #[.val (.int p0), .val (.int ((p0 &&& (2147483647 : Int32)) % (6 : Int32))), .val (.ref w5), .val (.int (0 : Int32))] [(.int (0 : Int32)), (.int (if w5 = w2 then (1 : Int32) else if w5 = w3 then (1 : Int32) else if w5 = w4 then (1 : Int32) else (0 : Int32)))])) (fun _ k => XS.iloadN X59.here hx rfl (hb hby at_87) rfl k) ?_
            refine own_by (T' := T59) (g' := (mkF m 91 #[.val (.int p0), .val (.int ((p0 &&& (2147483647 : Int32)) % (6 : Int32))), .val (.ref w5), .val (.int (0 : Int32))] [])) (fun _ k => XS.icmpNo X59.here hx rfl (hb hby at_88) rfl (XT.ii_ne_f (by simp [ne1, ne2, ne3, (Ne.symm ne6), (Ne.symm ne8), ne6, (Ne.symm ne9), ne8, ne9, ne10, ne11, ne12, ne13, ne14, ne15])) k) ?_
            refine own_by (T' := T59) (g' := (mkF m 92 #[.val (.int p0), .val (.int ((p0 &&& (2147483647 : Int32)) % (6 : Int32))), .val (.ref w5), .val (.int (0 : Int32))] [(.int (1 : Int32))])) (fun _ k => XS.iconst X59.here hx rfl (hb hby at_91) k) ?_
            refine own_by (T' := T59) (g' := (mkF m 96 #[.val (.int p0), .val (.int ((p0 &&& (2147483647 : Int32)) % (6 : Int32))), .val (.ref w5), .val (.int (0 : Int32))] [(.int (1 : Int32))])) (fun _ k => XS.goto X59.here hx rfl (pc0 := 92) (pc' := 96) rfl (hb hby at_92) (by decide) (by decide) k) ?_
            have hn62 : nar .boolean (1 : Int32) = (1 : Int32) := rfl
            obtain ⟨fs63, hr63, hrun63, hended63, hW63, hsame63⟩ := X59.leave (v := some (.int (nar .boolean (1 : Int32)))) (fun h => by rw [Bd.returns] at h; cases h)
            refine ⟨_, _, retN X59 hx (t := .boolean) Bd.returns (by simp) (hb hby at_96) hr63, hrun63, hended63, _, _, rfl, ?_, ⟨_, rfl⟩, hW63, hsame63.mono (by decide) (by decide)⟩
            show Q_rm0 Z w0 w1 w2 w3 w4 w5 p0 h0 n0 _ T59.heap _
            exact ⟨(congrArg (fun z => some (Value.int z)) hn62), N61⟩
set_option maxRecDepth 65536 in
set_option maxHeartbeats 40000000 in
theorem comes_1 {Post : Tables → Env → Array Value → State → Outcome → State → Prop} (hpost : ∀ tb e args s v u, (limb_1_1.after args s (.returned v) u = true ∧ limb_1_2.after args s (.returned v) u = true ∧ True) → FrameEnd s (.returned v) u (Jvm.fieldLocs frame_1_writes args s ++ Jvm.arrayLocs frame_1_arrays args s ++ Jvm.staticLocs frame_1_statics s) 0 0 → Post tb e args s (.returned v) u) :
    ArmFor flags0 classFile x code maxLocals ret World_1 tables_1 room_1 Calls_1 rest_1 Pre_1 Post := by
  intro l hfl _ _ p e ha hc hk s m args below hf hA hF happ hP
  obtain ⟨hcalls, hrest, hpre⟩ := hP
  obtain ⟨-, -, -, hnamed, -, -, -, hat⟩ := (Spec.applies_iff hf).mp happ
  obtain ⟨hg, hn⟩ := and_e (Cond.before_iff.mp (show (Jvm.Cond.and given_1 narrow_1).before args s = true from hpre))
  obtain ⟨g1a, g1b⟩ := and_e hg
  obtain ⟨g2a, g2b⟩ := and_e hn
  obtain ⟨g3a, g3b⟩ := and_e g2b
  obtain ⟨g4a, g4b⟩ := and_e g3b
  obtain ⟨g5a, g5b⟩ := and_e g4b
  obtain ⟨g6a, g6b⟩ := and_e g5b
  obtain ⟨g7a, g7b⟩ := and_e g6b
  obtain ⟨g8a, g8b⟩ := and_e g7b
  obtain ⟨g9a, g9b⟩ := and_e g8b
  obtain ⟨g10a, g10b⟩ := and_e g9b
  obtain ⟨g11a, g11b⟩ := and_e g10b
  obtain ⟨g12a, g12b⟩ := and_e g11b
  obtain ⟨w0, rfl⟩ : ∃ w0 : Value, args = #[w0] := by
    have hs : args.size = 1 := by simpa [Cond.value, given_1] using g1a
    obtain ⟨L⟩ := args
    match L, hs with
    | [w0], _ => exact ⟨w0, rfl⟩
  have hw := fun d (hd : d ∈ tables_1) => atoms_spec (ws := Jvm.Cond.code x code maxLocals ret :: tables_1) hat d (List.mem_cons_of_mem _ hd)
  have hfit : Fit s := fun {y c} hc i hi => by
    obtain ⟨ha, rfl⟩ := Array.getElem?_eq_some_iff.mp hc
    have q := List.all_eq_true.mp ((Array.all_eq_true_iff_forall_mem.mp hF) _ (Array.getElem_mem ha)) i (List.mem_range.mpr hi)
    simpa [Array.getElem?_eq_getElem hi] using q
  obtain ⟨i0, ei0⟩ := is_v g1b
  obtain rfl : w0 = (.int i0) := Option.some.inj ei0
  obtain ⟨w0, ev_w0⟩ := exa_v g2a
  have sta_w0 := Sta.start ev_w0 (Or.inr ⟨(hw _ (List.mem_of_getElem? (i := 2) rfl)), (hw _ (List.mem_of_getElem? (i := 3) rfl))⟩)
  obtain ⟨w1, ev_w1⟩ := exa_v g10a
  have sta_w1 := Sta.start ev_w1 (Or.inr ⟨(hw _ (List.mem_of_getElem? (i := 2) rfl)), (hw _ (List.mem_of_getElem? (i := 18) rfl))⟩)
  obtain ⟨w2, ev_w2⟩ := exa_v g3a
  have sta_w2 := Sta.start ev_w2 (Or.inr ⟨(hw _ (List.mem_of_getElem? (i := 2) rfl)), (hw _ (List.mem_of_getElem? (i := 10) rfl))⟩)
  obtain ⟨w3, ev_w3⟩ := exa_v g6a
  have sta_w3 := Sta.start ev_w3 (Or.inr ⟨(hw _ (List.mem_of_getElem? (i := 2) rfl)), (hw _ (List.mem_of_getElem? (i := 12) rfl))⟩)
  obtain ⟨w4, ev_w4⟩ := exa_v g8a
  have sta_w4 := Sta.start ev_w4 (Or.inr ⟨(hw _ (List.mem_of_getElem? (i := 2) rfl)), (hw _ (List.mem_of_getElem? (i := 14) rfl))⟩)
  obtain ⟨w5, ev_w5⟩ := exa_v g12a
  have sta_w5 := Sta.start ev_w5 (Or.inr ⟨(hw _ (List.mem_of_getElem? (i := 2) rfl)), (hw _ (List.mem_of_getElem? (i := 20) rfl))⟩)
  have exa_w0 := Exa.start ev_w0 g2a
  have exa_w1 := Exa.start ev_w1 g10a
  have exa_w2 := Exa.start ev_w2 g3a
  have exa_w3 := Exa.start ev_w3 g6a
  have exa_w4 := Exa.start ev_w4 g8a
  have exa_w5 := Exa.start ev_w5 g12a
  have fld_w0_ordinal := own_fldI ev_w0 g4a
  have fld_w1_ordinal := own_fldI ev_w1 g11a
  have fld_w2_ordinal := own_fldI ev_w2 g5a
  have fld_w3_ordinal := own_fldI ev_w3 g7a
  have fld_w4_ordinal := own_fldI ev_w4 g9a
  have fld_w5_ordinal := own_fldI ev_w5 g12b
  have GS : Glob s w0 w1 w2 w3 w4 w5 := ⟨sta_w0, sta_w1, sta_w2, sta_w3, sta_w4, sta_w5, exa_w0, exa_w1, exa_w2, exa_w3, exa_w4, exa_w5, fld_w0_ordinal, fld_w1_ordinal, fld_w2_ordinal, fld_w3_ordinal, fld_w4_ordinal, fld_w5_ordinal⟩
  obtain ⟨n, o, h1, h2, h3, _, L, rfl, ⟨rfl, N⟩, hq⟩ := rm0 l s _ hw tables_1 w0 w1 w2 w3 w4 w5 GS i0 s.heap s.heap.size (Nat.le_refl _) (Old.start s) p e ha hc hk s m _ below hf ((Spec.applies_iff_loose hf).mp happ).1 ⟨rfl, State.Warmed39.refl s, rfl⟩ trivial
  refine ⟨n, _, h1, h2, h3, hpost _ _ _ _ _ _ ⟨Cond.after_iff.mpr rfl, Cond.after_iff.mpr (eq_i res_at (Term.int_eval (1)) rfl), trivial⟩ ⟨hq.1, hq.2.1, (hq.2.2.sift fun y hy => Or.inr (N y hy)).mono (by decide) (by decide)⟩⟩
theorem main_1_1 : Claimed_1_1 := comes_1 fun _ _ _ _ _ _ h hF => ⟨h.1, hF⟩
theorem main_1_2 : Claimed_1_2 := comes_1 fun _ _ _ _ _ _ h hF => ⟨h.2.1, hF⟩
end Jvm.Pilot.@@N@@
namespace Jvm.Pilot.@@N@@
open Jvm Jvm.ClassFile Sem Op Lib Jvm.Free Jvm.Stand Jvm.Pilot.@@N@@.Jvm.D
/-! MADE BY PROGRAM (witnessworld.py) out of the Statement's table words and the real class files: 12 classes; the members and pool entries that the words name. The judged class is class 1, her method 1. -/
namespace start1
open Jvm.ClassFile
def u (s : String) : CpInfo := .utf8 (stringToUtf16 s)
/-- a pool by its gaps: so many unusable entries, then the entry; so many at the end -/
def gap : Nat → List CpInfo → List CpInfo
  | 0, r => r
  | n + 1, r => .unusable :: gap n r
def poolList (es : List (Nat × CpInfo)) (last : Nat) : List CpInfo := es.foldr (fun e r => gap e.1 (e.2 :: r)) (gap last [])
def pool (es : List (Nat × CpInfo)) (last : Nat) : Array CpInfo := ⟨poolList es last⟩
def fileOf (pool : Array CpInfo) (this : Nat) (attrs : Array Attribute := #[]) (ms : Array MethodInfo := #[]) (fl : Nat := 33) (sup : Nat := 0) (ifs : Array Nat := #[]) (fds : Array FieldInfo := #[]) : ClassFile where
  minorVersion := 0
  majorVersion := 65
  constantPool := pool
  accessFlags := fl
  thisClass := this
  superClass := sup
  interfaces := ifs
  fields := fds
  methods := ms
  attributes := attrs
def plain (name : String) (sup : Option ClassId) : Class where
  name := name
  kind := .ordinary
  loader := none
  accessFlags := 33
  super := sup
  interfaces := #[]
  cf := none
  fields := #[]
  methods := #[]
  instanceTypes := #[]
  staticTypes := #[]
  resolved := #[]
  callSites := []
  init := .initialized
  statics := none
  mirror := none

def pool0 : Array CpInfo := pool [(5, u "<init>"), (0, u "()V"), (1, .class_ 10), (1, u "java/lang/Object")] 113

def k0m0 : Method := { name := "<init>", desc := "()V", sig := { parameters := [], returnType := none }, accessFlags := 1, code := none }
/-- java/lang/Object -/
def k0 : Class := { plain "java/lang/Object" none with
  accessFlags := 33
  interfaces := #[]
  cf := some (fileOf pool0 8 #[] #[{ accessFlags := 1, nameIndex := 5, descriptorIndex := 6, attributes := #[] }] 33 0 #[] #[])
  fields := #[]
  methods := #[k0m0]
  instanceTypes := #[]
  staticTypes := #[]
  resolved := Array.replicate 124 none
  statics := none }

def pool1 : Array CpInfo := pool [(2, .class_ 4), (1, u "java/lang/Object"), (0, u "<init>"), (0, u "()V"), (0, .integer 2147483647), (0, .fieldref 9 10), (0, .class_ 11), (0, .nameAndType 12 13), (0, u "com/example/dependency_wiring/dependencywiring/InjectionPoint$Shape"), (0, u "ONE"), (0, u "Lcom/example/dependency_wiring/dependencywiring/InjectionPoint$Shape;"), (0, .fieldref 9 15), (0, .nameAndType 16 13), (0, u "OPTIONAL"), (0, .fieldref 9 18), (0, .nameAndType 19 13), (0, u "LIST"), (0, .fieldref 9 21), (0, .nameAndType 22 13), (0, u "SET"), (0, .fieldref 9 24), (0, .nameAndType 25 13), (0, u "MAP"), (0, .fieldref 9 27), (0, .nameAndType 28 13), (0, u "PROVIDER"), (0, .methodref 9 30), (0, .nameAndType 31 32), (0, u "takesAll"), (0, u "()Z"), (0, .class_ 34), (0, u "com/example/dependency_wiring/dependencywiring/ShapeTakesAllPinLaw"), (2, u "law"), (0, u "(I)Z")] 7

def k1m0 : Method := { name := "<init>", desc := "()V", sig := { parameters := [], returnType := none }, accessFlags := 2, code := none }
def k1c1 : Code := { maxStack := 2, maxLocals := 4, code := code, exceptionTable := #[], attributes := #[] }
def k1m1 : Method := { name := "law", desc := "(I)Z", sig := { parameters := [.int], returnType := some .boolean }, accessFlags := 9, code := some k1c1 }
/-- com/example/dependency_wiring/dependencywiring/ShapeTakesAllPinLaw -/
def k1 : Class := { plain "com/example/dependency_wiring/dependencywiring/ShapeTakesAllPinLaw" (some 0) with
  accessFlags := 49
  interfaces := #[]
  cf := some (fileOf pool1 33 #[] #[{ accessFlags := 2, nameIndex := 5, descriptorIndex := 6, attributes := #[] }, { accessFlags := 9, nameIndex := 37, descriptorIndex := 38, attributes := #[] }] 49 2 #[] #[])
  fields := #[]
  methods := #[k1m0, k1m1]
  instanceTypes := #[]
  staticTypes := #[]
  resolved := Array.replicate 46 none
  statics := none }

def pool2 : Array CpInfo := pool [(1, .class_ 2), (0, u "java/lang/constant/Constable"), (0, .class_ 4), (0, u "java/lang/Object")] 6

/-- java/lang/constant/Constable -/
def k2 : Class := { plain "java/lang/constant/Constable" (some 0) with
  accessFlags := 1537
  interfaces := #[]
  cf := some (fileOf pool2 1 #[] #[] 1537 3 #[] #[])
  fields := #[]
  methods := #[]
  instanceTypes := #[]
  staticTypes := #[]
  resolved := Array.replicate 11 none
  statics := none }

def pool3 : Array CpInfo := pool [(1, .class_ 2), (0, u "java/lang/Comparable"), (0, .class_ 4), (0, u "java/lang/Object")] 7

/-- java/lang/Comparable -/
def k3 : Class := { plain "java/lang/Comparable" (some 0) with
  accessFlags := 1537
  interfaces := #[]
  cf := some (fileOf pool3 1 #[] #[] 1537 3 #[] #[])
  fields := #[]
  methods := #[]
  instanceTypes := #[]
  staticTypes := #[]
  resolved := Array.replicate 12 none
  statics := none }

def pool4 : Array CpInfo := pool [(1, .class_ 2), (0, u "java/io/Serializable"), (0, .class_ 4), (0, u "java/lang/Object")] 2

/-- java/io/Serializable -/
def k4 : Class := { plain "java/io/Serializable" (some 0) with
  accessFlags := 1537
  interfaces := #[]
  cf := some (fileOf pool4 1 #[] #[] 1537 3 #[] #[])
  fields := #[]
  methods := #[]
  instanceTypes := #[]
  staticTypes := #[]
  resolved := Array.replicate 7 none
  statics := none }

def pool5 : Array CpInfo := pool [(2, .class_ 4), (1, u "java/lang/Enum"), (0, u "name"), (0, u "Ljava/lang/String;"), (2, u "ordinal"), (0, u "I"), (1, .class_ 14), (1, u "java/lang/Object"), (4, u "hash"), (86, .class_ 108), (1, u "java/lang/Enum$EnumDesc"), (2, .class_ 112), (0, u "java/lang/constant/Constable"), (0, .class_ 114), (0, u "java/lang/Comparable"), (0, .class_ 116), (0, u "java/io/Serializable")] 87

/-- java/lang/Enum -/
def k5 : Class := { plain "java/lang/Enum" (some 0) with
  accessFlags := 1057
  interfaces := #[2, 3, 4]
  cf := some (fileOf pool5 2 #[.nestMembers #[106]] #[] 1057 12 #[111, 113, 115] #[{ accessFlags := 18, nameIndex := 5, descriptorIndex := 6, attributes := #[] }, { accessFlags := 18, nameIndex := 9, descriptorIndex := 10, attributes := #[] }, { accessFlags := 2, nameIndex := 19, descriptorIndex := 10, attributes := #[] }])
  fields := #[{ name := "name", type := (.object "java/lang/String"), accessFlags := 18, slot := 0, constantValue := 0 }, { name := "ordinal", type := .int, accessFlags := 18, slot := 1, constantValue := 0 }, { name := "hash", type := .int, accessFlags := 2, slot := 2, constantValue := 0 }]
  methods := #[]
  instanceTypes := #[(.object "java/lang/String"), .int, .int]
  staticTypes := #[]
  resolved := Array.replicate 204 none
  statics := none }

def pool6 : Array CpInfo := pool [(1, .class_ 2), (0, u "com/example/dependency_wiring/dependencywiring/InjectionPoint$Shape"), (2, u "ONE"), (0, u "Lcom/example/dependency_wiring/dependencywiring/InjectionPoint$Shape;"), (2, u "OPTIONAL"), (0, .fieldref 1 11), (0, .nameAndType 12 6), (0, u "LIST"), (0, .fieldref 1 14), (0, .nameAndType 15 6), (0, u "SET"), (0, .fieldref 1 17), (0, .nameAndType 18 6), (0, u "MAP"), (2, u "PROVIDER"), (2, u "$VALUES"), (0, u "[Lcom/example/dependency_wiring/dependencywiring/InjectionPoint$Shape;"), (6, .class_ 34), (1, u "java/lang/Enum"), (24, u "takesAll"), (0, u "()Z"), (6, .class_ 68), (0, u "com/example/dependency_wiring/dependencywiring/InjectionPoint")] 2

def k6c0 : Code := { maxStack := 2, maxLocals := 1, code := prog_58_method_4_code, exceptionTable := #[], attributes := #[] }
def k6m0 : Method := { name := "takesAll", desc := "()Z", sig := { parameters := [], returnType := some .boolean }, accessFlags := 0, code := some k6c0 }
/-- com/example/dependency_wiring/dependencywiring/InjectionPoint$Shape -/
def k6 : Class := { plain "com/example/dependency_wiring/dependencywiring/InjectionPoint$Shape" (some 5) with
  accessFlags := 16432
  interfaces := #[]
  cf := some (fileOf pool6 1 #[.nestHost 67] #[{ accessFlags := 0, nameIndex := 59, descriptorIndex := 60, attributes := #[] }] 16432 32 #[] #[{ accessFlags := 16409, nameIndex := 5, descriptorIndex := 6, attributes := #[] }, { accessFlags := 16409, nameIndex := 9, descriptorIndex := 6, attributes := #[] }, { accessFlags := 16409, nameIndex := 12, descriptorIndex := 6, attributes := #[] }, { accessFlags := 16409, nameIndex := 15, descriptorIndex := 6, attributes := #[] }, { accessFlags := 16409, nameIndex := 18, descriptorIndex := 6, attributes := #[] }, { accessFlags := 16409, nameIndex := 21, descriptorIndex := 6, attributes := #[] }, { accessFlags := 4122, nameIndex := 24, descriptorIndex := 25, attributes := #[] }])
  fields := #[{ name := "ONE", type := (.object "com/example/dependency_wiring/dependencywiring/InjectionPoint$Shape"), accessFlags := 16409, slot := 0, constantValue := 0 }, { name := "OPTIONAL", type := (.object "com/example/dependency_wiring/dependencywiring/InjectionPoint$Shape"), accessFlags := 16409, slot := 1, constantValue := 0 }, { name := "LIST", type := (.object "com/example/dependency_wiring/dependencywiring/InjectionPoint$Shape"), accessFlags := 16409, slot := 2, constantValue := 0 }, { name := "SET", type := (.object "com/example/dependency_wiring/dependencywiring/InjectionPoint$Shape"), accessFlags := 16409, slot := 3, constantValue := 0 }, { name := "MAP", type := (.object "com/example/dependency_wiring/dependencywiring/InjectionPoint$Shape"), accessFlags := 16409, slot := 4, constantValue := 0 }, { name := "PROVIDER", type := (.object "com/example/dependency_wiring/dependencywiring/InjectionPoint$Shape"), accessFlags := 16409, slot := 5, constantValue := 0 }, { name := "$VALUES", type := (.array (.object "com/example/dependency_wiring/dependencywiring/InjectionPoint$Shape")), accessFlags := 4122, slot := 6, constantValue := 0 }]
  methods := #[k6m0]
  instanceTypes := #[(.object "java/lang/String"), .int, .int]
  staticTypes := #[(.object "com/example/dependency_wiring/dependencywiring/InjectionPoint$Shape"), (.object "com/example/dependency_wiring/dependencywiring/InjectionPoint$Shape"), (.object "com/example/dependency_wiring/dependencywiring/InjectionPoint$Shape"), (.object "com/example/dependency_wiring/dependencywiring/InjectionPoint$Shape"), (.object "com/example/dependency_wiring/dependencywiring/InjectionPoint$Shape"), (.object "com/example/dependency_wiring/dependencywiring/InjectionPoint$Shape"), (.array (.object "com/example/dependency_wiring/dependencywiring/InjectionPoint$Shape"))]
  resolved := Array.replicate 71 none
  statics := some 0 }

def pool7 : Array CpInfo := pool [(1, u "java/lang/Cloneable"), (0, .class_ 1), (0, u "java/lang/Object"), (0, .class_ 3)] 3

/-- java/lang/Cloneable -/
def k7 : Class := { plain "java/lang/Cloneable" (some 0) with
  accessFlags := 1537
  interfaces := #[]
  cf := some (fileOf pool7 2 #[] #[] 1537 4 #[] #[])
  fields := #[]
  methods := #[]
  instanceTypes := #[]
  staticTypes := #[]
  resolved := Array.replicate 8 none
  statics := none }

/-- the primitive byte -/
def k8 : Class := { plain "byte" none with kind := .primitive 'B', accessFlags := 0x411 }
/-- [B -/
def k9 : Class := { plain "[B" (some 0) with kind := .array 8 .byte, interfaces := #[7, 4], accessFlags := 1041 }

/-- the primitive int -/
def k10 : Class := { plain "int" none with kind := .primitive 'I', accessFlags := 0x411 }
/-- [I -/
def k11 : Class := { plain "[I" (some 0) with kind := .array 10 .int, interfaces := #[7, 4], accessFlags := 1041 }

def heap : Heap := #[{ cls := 6, slots := #[.ref 1, .ref 5, .ref 2, .ref 3, .ref 4, .ref 6, .null], vm := .statics 6 },
  { cls := 6, slots := #[.null, .int 0, .int 0], vm := .none },
  { cls := 6, slots := #[.null, .int 2, .int 0], vm := .none },
  { cls := 6, slots := #[.null, .int 3, .int 0], vm := .none },
  { cls := 6, slots := #[.null, .int 4, .int 0], vm := .none },
  { cls := 6, slots := #[.null, .int 1, .int 0], vm := .none },
  { cls := 6, slots := #[.null, .int 5, .int 0], vm := .none }]
def classes : Array Class := #[k0, k1, k2, k3, k4, k5, k6, k7, k8, k9, k10, k11]
def interned : List (Array UInt16 × Addr) := []
def slotsUsed : Nat := 25
def theMethod : MethodId := ⟨1, 1⟩
def args0 : Array Value := #[.int 1]
def aboutOver (below : List Frame) : State where
  vm := { classes := classes, interned := interned.toArray }
  heap := heap
  slotsUsed := slotsUsed
  threads := #[{ frames := .invoking theMethod args0 :: below }]
def below0 : List Frame := [.native { method := ⟨0, 0⟩, args := #[] }]
def about1 : State := aboutOver below0
def p0 : Program := .bare "" "" ""
def e0 : Env := launch0.env 0 0 0
theorem w_frames : about1.frames = Frame.invoking theMethod args0 :: below0 := rfl
set_option maxRecDepth 65536 in
theorem w_args : argsFit about1.vm theMethod args0 = true := by decide +kernel
set_option maxRecDepth 65536 in
theorem w_heap : heapFits about1 = true := by decide +kernel
set_option maxRecDepth 65536 in
theorem w_runnable : about1.curStatus? = some .runnable := by decide +kernel
set_option maxRecDepth 65536 in
theorem w_alone : about1.alone = true := by decide +kernel
set_option maxRecDepth 65536 in
theorem w_named : about1.methodNamed? x = some theMethod := by decide +kernel
set_option maxRecDepth 65536 in
theorem w_hears : about1.hears theMethod below0 = true := by decide +kernel
set_option maxRecDepth 65536 in
theorem w_ripe : about1.ripe theMethod args0 below0 = true := by decide +kernel
theorem w_running : about1.status = .running := rfl
set_option maxRecDepth 65536 in
theorem w_room : about1.hasRoom e0.platform room_1 = true :=
  launch0.hasRoom_least _ room_1 (by decide +kernel) (by decide +kernel) (by decide +kernel) (by decide +kernel) (by decide +kernel) (by decide +kernel)
theorem allAtoms_all (ts : List Jvm.Cond) (a : Array Jvm.Value) (st : Jvm.State) : (allAtoms ts).before a st = ts.all (fun c => c.before a st) := by
  induction ts with
  | nil => rfl
  | cons c t ih =>
    show (Jvm.Cond.and c (allAtoms t)).before a st = _
    rw [Jvm.Cond.before_and, ih, List.all_cons]
def words1 : List Jvm.Cond := Jvm.Cond.code x code maxLocals ret :: tables_1
/-- a 'code' word, met by the world's own term for the bytes: nothing is compared byte by byte -/
theorem code_word {y : MethodName} {bytes : ByteArray} {mx : Nat} {rt : Option FieldType} {a : Array Value} {s : State} {m : MethodId} {meth : Method} {c : Code} (h1 : s.methodNamed? y = some m) (h2 : s.vm.method? m = some meth) (h3 : meth.code = some c) (h4 : c.code = bytes)
    (h5 : (c.maxLocals == mx && c.exceptionTable.isEmpty && decide (c.maxStack ≤ mostOperands) && decide (meth.sig.returnType = rt) && !meth.locks && decide (parseMethodDescriptor y.desc = some meth.sig)) = true) : (Jvm.Cond.code y bytes mx rt).before a s = true := by
  simp only [Bool.and_eq_true, beq_iff_eq, Bool.not_eq_true', decide_eq_true_eq] at h5
  obtain ⟨⟨⟨⟨⟨g1, g2⟩, g3⟩, g4⟩, g5⟩, g6⟩ := h5
  simp [Cond.before, Cond.holds, Cond.value, h1, h2, h3, h4, g1, g2, g3, g4, g5, g6]
def isCode : Jvm.Cond → Bool
  | .code _ _ _ _ => true
  | _ => false
theorem all_split {L : List Jvm.Cond} {P : Jvm.Cond → Bool} (h1 : L.all (fun c => isCode c || P c) = true) (h2 : ∀ c ∈ L.filter isCode, P c = true) : L.all P = true := by
  refine List.all_eq_true.mpr fun c hc => ?_
  have h := List.all_eq_true.mp h1 c hc
  rcases Bool.eq_false_or_eq_true (isCode c) with hi | hi
  · exact h2 c (List.mem_filter.mpr ⟨hc, hi⟩)
  · simpa [hi] using h
set_option maxRecDepth 65536 in
theorem w_c0 : (Jvm.Cond.code x code maxLocals ret).before args0 about1 = true := code_word (m := ⟨1, 1⟩) (meth := k1m1) (c := k1c1) (by decide +kernel) rfl rfl rfl (by decide +kernel)
set_option maxRecDepth 65536 in
theorem w_c1 : (Jvm.Cond.code ({ cls := "com/example/dependency_wiring/dependencywiring/InjectionPoint$Shape", name := "takesAll", desc := "()Z" } : Jvm.MethodName) prog_58_method_4_code (1 : Nat) (Option.some Jvm.ClassFile.FieldType.boolean)).before args0 about1 = true := code_word (m := ⟨6, 0⟩) (meth := k6m0) (c := k6c0) (by decide +kernel) rfl rfl rfl (by decide +kernel)
def codes1 : List Jvm.Cond := [Jvm.Cond.code x code maxLocals ret, Jvm.Cond.code ({ cls := "com/example/dependency_wiring/dependencywiring/InjectionPoint$Shape", name := "takesAll", desc := "()Z" } : Jvm.MethodName) prog_58_method_4_code (1 : Nat) (Option.some Jvm.ClassFile.FieldType.boolean)]
set_option maxRecDepth 65536 in
theorem codes_eq : words1.filter isCode = codes1 := rfl
theorem w_codes : ∀ c ∈ words1.filter isCode, c.before args0 about1 = true := by
  rw [codes_eq]
  intro c hc
  simp only [codes1, List.mem_cons, List.not_mem_nil, or_false] at hc
  rcases hc with rfl | rfl
  · exact w_c0
  · exact w_c1
set_option maxRecDepth 65536 in
theorem w_t1 : words1.all (fun c => isCode c || c.before args0 about1) = true := by decide +kernel
theorem w_tables : (allAtoms (Jvm.Cond.code x code maxLocals ret :: tables_1)).before args0 about1 = true := by
  rw [allAtoms_all]
  show words1.all (fun c => c.before args0 about1) = true
  refine all_split ?_ w_codes
  rw [w_t1]
set_option maxRecDepth 65536 in
theorem w_case : (Jvm.Cond.and given_1 narrow_1).before args0 about1 = true := by decide +kernel
theorem w_applies : (headSpec (Jvm.Cond.code x code maxLocals ret :: tables_1) room_1).applies x e0.platform about1 = true :=
  (Spec.applies_iff w_frames).mpr ⟨w_running, w_runnable, w_alone, w_named, w_hears, w_ripe, w_room, w_tables⟩
theorem atStart : AtStart classFile x code maxLocals ret World_1 tables_1 room_1 Calls_1 rest_1 Pre_1 launch0 p0 e0 about1 theMethod args0 below0 :=
  ⟨lists_1, trivial, launch0.admits_env _ _ _, launch0.least_env, fairChoices_fair.cas, fairChoices_fair.clock, w_frames, w_args, w_heap, w_applies, trivial, trivial, w_case⟩
end start1
theorem witness_1 : WitnessClaimed_1 := ⟨start1.p0, start1.e0, start1.about1, start1.theMethod, start1.args0, start1.below0, start1.atStart⟩
end Jvm.Pilot.@@N@@
