import JvmDerived
import JvmDerived.Pilot.@@N@@Statement
import JvmDerived.Pilot.@@N@@Code
set_option linter.unusedVariables false
set_option linter.unusedSimpArgs false
namespace Jvm.Pilot.@@N@@
open Jvm Jvm.ClassFile Sem Op Lib Jvm.Free Jvm.Stand Jvm.LawKit Jvm.RoadKit Bundle Jvm.Pilot.@@N@@.Jvm.D
/-! 0. the walk's goal, and how a step leads to it -/
def OGoal (p : Program) (e : Env) (below : List Frame) (Φ : Outcome → State → Prop) (T : State) (g : JFrame) : Prop :=
  ∃ s₂ o, Steps p.tables e below (T.setTop g) s₂ ∧ s₂.status = .running ∧ Ended s₂ below o ∧ Φ o s₂
theorem own_by {p : Program} {e : Env} {below : List Frame} {Φ : Outcome → State → Prop} {T T' : State} {g g' : JFrame}
    (st : ∀ t, Steps p.tables e below (T'.setTop g') t → Steps p.tables e below (T.setTop g) t) (G : OGoal p e below Φ T' g') : OGoal p e below Φ T g := by
  obtain ⟨s₂, o, h1, h2⟩ := G
  exact ⟨s₂, o, st _ h1, h2⟩
theorem own_enter {p : Program} {e : Env} {below : List Frame} {Φ : Outcome → State → Prop} {T : State} {g g' : JFrame} (q : g = g') (G : OGoal p e below Φ T g') :
    ∃ s₂ o, Steps p.tables e below (T.setTop g) s₂ ∧ s₂.status = .running ∧ Ended s₂ below o ∧ Φ o s₂ := by subst q; exact G
theorem own_kext {h h' : Heap} (E : Ext h h') : Keep h h' [] := (Keep.refl h []).ext E
theorem own_narR {ty : FieldType} {v : Value} (hty : ty.isReference = true) (h : v.isRef = true) : narrow ty v = v := by
  rcases ref_cases h with rfl | ⟨a, rfl⟩ <;> cases ty <;> first | rfl | (cases hty)
theorem own_fitR {ty : FieldType} {v : Value} (hty : ty.isReference = true) (h : v.isRef = true) : fits ty v = true := by
  rcases ref_cases h with rfl | ⟨a, rfl⟩ <;> cases ty <;> first | rfl | (cases hty)
theorem own_narC (x : Int32) : nar .char (x.toUInt32.toUInt16.toUInt32.toInt32) = x.toUInt32.toUInt16.toUInt32.toInt32 := by
  show (x.toUInt32.toUInt16.toUInt32.toInt32).toUInt32.toUInt16.toUInt32.toInt32 = _
  simp only [UInt32.toUInt32_toInt32, UInt16.toUInt16_toUInt32]
theorem own_narB (x : Int32) : nar .byte (x.toInt8.toInt32) = x.toInt8.toInt32 := by
  show (x.toInt8.toInt32).toInt8.toInt32 = _
  simp
theorem own_fldI {Z : State} {args : Array Value} {t : Term} {a : Addr} {C n d : String} {k : Int32} (ev : t.eval args Z none [] Z = some (.ref a)) (h : (Jvm.Cond.eq (.field t C n d) (.int k)).value args Z none Z [] = some true) : Fld Z Z.heap a C n d (.int k) :=
  Fld.start ((fld_at ev).symm.trans (eqv_i (Term.int_eval k) h))
theorem own_fldJ {Z : State} {args : Array Value} {t : Term} {a : Addr} {C n d : String} {k : Int64} (ev : t.eval args Z none [] Z = some (.ref a)) (h : (Jvm.Cond.eq (.field t C n d) (.long k)).value args Z none Z [] = some true) : Fld Z Z.heap a C n d (.long k) :=
  Fld.start ((fld_at ev).symm.trans (eqv_l (F := .long k) rfl h))
def Glob (Z : State) (wN : Addr) (wNE : Addr) (wSE : Addr) (wS : Addr) (wSW : Addr) (wNW : Addr) : Prop := Sta Z Z.heap "com/example/redoubt/redoubt/core/Direction" "N" "Lcom/example/redoubt/redoubt/core/Direction;" (.ref wN) ∧ Exa Z Z.heap wN "com/example/redoubt/redoubt/core/Direction" ∧ Fld Z Z.heap wN "com/example/redoubt/redoubt/core/Direction" "dq" "I" (.int (0 : Int32)) ∧ Fld Z Z.heap wN "com/example/redoubt/redoubt/core/Direction" "dr" "I" (.int (-1 : Int32)) ∧ Sta Z Z.heap "com/example/redoubt/redoubt/core/Direction" "NE" "Lcom/example/redoubt/redoubt/core/Direction;" (.ref wNE) ∧ Exa Z Z.heap wNE "com/example/redoubt/redoubt/core/Direction" ∧ Fld Z Z.heap wNE "com/example/redoubt/redoubt/core/Direction" "dq" "I" (.int (1 : Int32)) ∧ Fld Z Z.heap wNE "com/example/redoubt/redoubt/core/Direction" "dr" "I" (.int (-1 : Int32)) ∧ Sta Z Z.heap "com/example/redoubt/redoubt/core/Direction" "SE" "Lcom/example/redoubt/redoubt/core/Direction;" (.ref wSE) ∧ Exa Z Z.heap wSE "com/example/redoubt/redoubt/core/Direction" ∧ Fld Z Z.heap wSE "com/example/redoubt/redoubt/core/Direction" "dq" "I" (.int (1 : Int32)) ∧ Fld Z Z.heap wSE "com/example/redoubt/redoubt/core/Direction" "dr" "I" (.int (0 : Int32)) ∧ Sta Z Z.heap "com/example/redoubt/redoubt/core/Direction" "S" "Lcom/example/redoubt/redoubt/core/Direction;" (.ref wS) ∧ Exa Z Z.heap wS "com/example/redoubt/redoubt/core/Direction" ∧ Fld Z Z.heap wS "com/example/redoubt/redoubt/core/Direction" "dq" "I" (.int (0 : Int32)) ∧ Fld Z Z.heap wS "com/example/redoubt/redoubt/core/Direction" "dr" "I" (.int (1 : Int32)) ∧ Sta Z Z.heap "com/example/redoubt/redoubt/core/Direction" "SW" "Lcom/example/redoubt/redoubt/core/Direction;" (.ref wSW) ∧ Exa Z Z.heap wSW "com/example/redoubt/redoubt/core/Direction" ∧ Fld Z Z.heap wSW "com/example/redoubt/redoubt/core/Direction" "dq" "I" (.int (-1 : Int32)) ∧ Fld Z Z.heap wSW "com/example/redoubt/redoubt/core/Direction" "dr" "I" (.int (1 : Int32)) ∧ Sta Z Z.heap "com/example/redoubt/redoubt/core/Direction" "NW" "Lcom/example/redoubt/redoubt/core/Direction;" (.ref wNW) ∧ Exa Z Z.heap wNW "com/example/redoubt/redoubt/core/Direction" ∧ Fld Z Z.heap wNW "com/example/redoubt/redoubt/core/Direction" "dq" "I" (.int (-1 : Int32)) ∧ Fld Z Z.heap wNW "com/example/redoubt/redoubt/core/Direction" "dr" "I" (.int (0 : Int32))
theorem own_d2_0 : decode jdk_30_method_1_code 0 = .ok (.aload_n 0, 1) := by decide +kernel
theorem own_d2_1 : decode jdk_30_method_1_code 1 = .ok (.invokespecial 1, 3) := by decide +kernel
theorem own_d2_4 : decode jdk_30_method_1_code 4 = .ok (.return_, 1) := by decide +kernel
theorem own_pn_java_lang_Record : plainName "java/lang/Record" = true := by first | (simp [plainName, overriddenIn]; done) | decide +kernel
theorem own_ef_rmRec (m : MethodId) (x0 : Addr) : entryFrame m #[(.ref x0)] 1 = mkF m 0 #[.val (.ref x0)] [] := by first | (simp [entryFrame, mkF, argsToLocals, Value.category]; done) | rfl
def Q_rmRec (Z : State) (wN : Addr) (wNE : Addr) (wSE : Addr) (wS : Addr) (wSW : Addr) (wNW : Addr) (a : Addr) (h0 : Heap) (n0 : Nat) (vv_ : Option Value) (hh_ : Heap) (LL_ : List Loc) : Prop := vv_ = none ∧ Fr n0 LL_ ∧ hh_ = h0
set_option maxRecDepth 65536 in
set_option maxHeartbeats 40000000 in
theorem rmRec (l : Launch) (Z : State) (a0 : Array Value) (hw : ∀ d ∈ tables_1, d.before a0 Z = true) (ws : List Jvm.Cond) (wN : Addr) (wNE : Addr) (wSE : Addr) (wS : Addr) (wSW : Addr) (wNW : Addr) (GS : Glob Z wN wNE wSE wS wSW wNW) (a : Addr) (h0 : Heap) (n0 : Nat) (Z0 : n0 ≤ h0.size) (O0 : Old Z n0 h0) :
    MetFree l (⟨"java/lang/Record", "<init>", "()V"⟩ : MethodName) (head1 (Jvm.Cond.code (⟨"java/lang/Record", "<init>", "()V"⟩ : MethodName) jdk_30_method_1_code 1 none :: ws) ({ frames := 1, cells := 0, slots := 0, locals := 12 } : Room)) (fun aa_ UU_ => aa_ = #[(.ref a)] ∧ Z.Warmed39 UU_.vm ∧ UU_.heap = h0) (fun _ _ _ _ _ => True) (fun _ UU_ oo_ UV_ => ∃ vv_ LL_, oo_ = .returned vv_ ∧ Q_rmRec Z wN wNE wSE wS wSW wNW a h0 n0 vv_ UV_.heap LL_ ∧ FrameEnd UU_ oo_ UV_ LL_ ({ frames := 1, cells := 0, slots := 0, locals := 12 } : Room).cells ({ frames := 1, cells := 0, slots := 0, locals := 12 } : Room).slots) := by
  refine MetFree.of_bodySF (plainFor_of_name own_pn_java_lang_Record) hisR ?_
  intro p e s m args below meth c s₁ Bd hml0 hP hK
  obtain ⟨rfl, hZ, hh⟩ := hP
  have hx := Bd.exec
  have hby := Bd.bytes
  have hml : c.maxLocals = 1 := hml0
  have hown : s.vm.findClass "java/lang/Record" = some m.cls := findClass_of_methodNamed Bd.named
  have hnm := (name_of_methodNamed Bd.named Bd.method).1
  have X0 : Stand p l e ({ frames := 1, cells := 0, slots := 0, locals := 12 } : Room) s m #[(.ref a)] below meth c s₁ [] 0 0 := Stand.of_body Bd
  have e0 : s₁.heap = h0 := by rw [← hh, Bd.state]; rfl
  have N0 := Fr.nil n0
  have hn0 : Z.heap.size = n0 := O0.1
  have KT0 : Keep h0 h0 [] := Keep.refl _ _
  refine own_enter (Φ := fun oo_ UV_ => ∃ vv_ LL_, oo_ = .returned vv_ ∧ Q_rmRec Z wN wNE wSE wS wSW wNW a h0 n0 vv_ UV_.heap LL_ ∧ FrameEnd s oo_ UV_ LL_ ({ frames := 1, cells := 0, slots := 0, locals := 12 } : Room).cells ({ frames := 1, cells := 0, slots := 0, locals := 12 } : Room).slots) (own_ef_rmRec m a) ?_
  refine own_by (T' := s₁) (g' := (mkF m 1 #[.val (.ref a)] [(.ref a)])) (fun _ kt_ => XS.aloadN X0.here hx rfl (hb hby own_d2_0) rfl rfl kt_) ?_
  obtain ⟨T1, X1, e1, st1⟩ := initO X0 hx hZ hown (hw _ (List.mem_of_getElem? (i := 15) rfl)) (hw _ (List.mem_of_getElem? (i := 16) rfl)) (hw _ (List.mem_of_getElem? (i := 17) rfl)) e0 (g := (mkF m 1 #[.val (.ref a)] [(.ref a)])) rfl (by rw [hml]; rfl) rfl (hb hby own_d2_1) (by decide) (W := 0) (by show 2 * 0 + _ ≤ _; exact Nat.le_of_eq rfl) (by decide)
  refine own_by (T' := T1) (g' := (mkF m 4 #[.val (.ref a)] [])) st1 ?_
  obtain ⟨fs2, hr2, hrun2, hended2, hW2, hsame2⟩ := X1.leave (v := none) (fun _ => rfl)
  refine ⟨_, _, X1.returnOut hx Bd.returns (hb hby own_d2_4) hr2, hrun2, hended2, _, _, rfl, ?_, ⟨_, rfl⟩, hW2, hsame2.mono (by decide) (by decide)⟩
  show Q_rmRec Z wN wNE wSE wS wSW wNW a h0 n0 _ T1.heap _
  exact ⟨rfl, N0, e1⟩
theorem own_pd_0 : parseMethodDescriptor "()V" = some ⟨[], none⟩ := by decide +kernel
theorem own_d1_0 : decode prog_4_method_1_code 0 = .ok (.aload_n 0, 1) := by decide +kernel
theorem own_d1_1 : decode prog_4_method_1_code 1 = .ok (.invokespecial 1, 3) := by decide +kernel
theorem own_d1_4 : decode prog_4_method_1_code 4 = .ok (.aload_n 0, 1) := by decide +kernel
theorem own_d1_5 : decode prog_4_method_1_code 5 = .ok (.iload_n 1, 1) := by decide +kernel
theorem own_d1_6 : decode prog_4_method_1_code 6 = .ok (.putfield 7, 3) := by decide +kernel
theorem own_d1_9 : decode prog_4_method_1_code 9 = .ok (.aload_n 0, 1) := by decide +kernel
theorem own_d1_10 : decode prog_4_method_1_code 10 = .ok (.iload_n 2, 1) := by decide +kernel
theorem own_d1_11 : decode prog_4_method_1_code 11 = .ok (.putfield 13, 3) := by decide +kernel
theorem own_d1_14 : decode prog_4_method_1_code 14 = .ok (.return_, 1) := by decide +kernel
theorem own_pn_com_example_redoubt_redoubt_core_Cell : plainName "com/example/redoubt/redoubt/core/Cell" = true := by first | (simp [plainName, overriddenIn]; done) | decide +kernel
theorem own_ef_rmIni (m : MethodId) (x0 : Addr) (x1 : Int32) (x2 : Int32) : entryFrame m #[(.ref x0), (.int x1), (.int x2)] 3 = mkF m 0 #[.val (.ref x0), .val (.int x1), .val (.int x2)] [] := by first | (simp [entryFrame, mkF, argsToLocals, Value.category]; done) | rfl
def Q_rmIni (Z : State) (wN : Addr) (wNE : Addr) (wSE : Addr) (wS : Addr) (wSW : Addr) (wNW : Addr) (a : Addr) (q : Int32) (r : Int32) (h0 : Heap) (n0 : Nat) (vv_ : Option Value) (hh_ : Heap) (LL_ : List Loc) : Prop := vv_ = none ∧ Fr n0 LL_ ∧ Keep h0 hh_ [a] ∧ Fld Z hh_ a "com/example/redoubt/redoubt/core/Cell" "q" "I" (.int q) ∧ Fld Z hh_ a "com/example/redoubt/redoubt/core/Cell" "r" "I" (.int r)
set_option maxRecDepth 65536 in
set_option maxHeartbeats 40000000 in
theorem rmIni (l : Launch) (Z : State) (a0 : Array Value) (hw : ∀ d ∈ tables_1, d.before a0 Z = true) (ws : List Jvm.Cond) (wN : Addr) (wNE : Addr) (wSE : Addr) (wS : Addr) (wSW : Addr) (wNW : Addr) (GS : Glob Z wN wNE wSE wS wSW wNW) (a : Addr) (q : Int32) (r : Int32) (h0 : Heap) (n0 : Nat) (Z0 : n0 ≤ h0.size) (O0 : Old Z n0 h0) (E_a : Exa Z h0 a "com/example/redoubt/redoubt/core/Cell") (g_a : n0 ≤ a) (F_q : Fld Z h0 a "com/example/redoubt/redoubt/core/Cell" "q" "I" (.int (0 : Int32))) (F_r : Fld Z h0 a "com/example/redoubt/redoubt/core/Cell" "r" "I" (.int (0 : Int32))) :
    MetFree l (⟨"com/example/redoubt/redoubt/core/Cell", "<init>", "(II)V"⟩ : MethodName) (head1 (Jvm.Cond.code (⟨"com/example/redoubt/redoubt/core/Cell", "<init>", "(II)V"⟩ : MethodName) prog_4_method_1_code 3 none :: ws) ({ frames := 2, cells := 0, slots := 0, locals := 24 } : Room)) (fun aa_ UU_ => aa_ = #[(.ref a), (.int q), (.int r)] ∧ Z.Warmed39 UU_.vm ∧ UU_.heap = h0) (fun _ _ _ _ _ => True) (fun _ UU_ oo_ UV_ => ∃ vv_ LL_, oo_ = .returned vv_ ∧ Q_rmIni Z wN wNE wSE wS wSW wNW a q r h0 n0 vv_ UV_.heap LL_ ∧ FrameEnd UU_ oo_ UV_ LL_ ({ frames := 2, cells := 0, slots := 0, locals := 24 } : Room).cells ({ frames := 2, cells := 0, slots := 0, locals := 24 } : Room).slots) := by
  refine MetFree.of_bodySF (plainFor_of_name own_pn_com_example_redoubt_redoubt_core_Cell) hisR ?_
  intro p e s m args below meth c s₁ Bd hml0 hP hK
  obtain ⟨rfl, hZ, hh⟩ := hP
  have hx := Bd.exec
  have hby := Bd.bytes
  have hml : c.maxLocals = 3 := hml0
  have hown : s.vm.findClass "com/example/redoubt/redoubt/core/Cell" = some m.cls := findClass_of_methodNamed Bd.named
  have hnm := (name_of_methodNamed Bd.named Bd.method).1
  have X0 : Stand p l e ({ frames := 2, cells := 0, slots := 0, locals := 24 } : Room) s m #[(.ref a), (.int q), (.int r)] below meth c s₁ [] 0 0 := Stand.of_body Bd
  have e0 : s₁.heap = h0 := by rw [← hh, Bd.state]; rfl
  have N0 := Fr.nil n0
  have hn0 : Z.heap.size = n0 := O0.1
  have KT0 : Keep h0 h0 [a] := Keep.refl _ _
  refine own_enter (Φ := fun oo_ UV_ => ∃ vv_ LL_, oo_ = .returned vv_ ∧ Q_rmIni Z wN wNE wSE wS wSW wNW a q r h0 n0 vv_ UV_.heap LL_ ∧ FrameEnd s oo_ UV_ LL_ ({ frames := 2, cells := 0, slots := 0, locals := 24 } : Room).cells ({ frames := 2, cells := 0, slots := 0, locals := 24 } : Room).slots) (own_ef_rmIni m a q r) ?_
  refine own_by (T' := s₁) (g' := (mkF m 1 #[.val (.ref a), .val (.int q), .val (.int r)] [(.ref a)])) (fun _ kt_ => XS.aloadN X0.here hx rfl (hb hby own_d1_0) rfl rfl kt_) ?_
  obtain ⟨_, _, ⟨T1, L1, k1, n1⟩, -, X1, ⟨Lc1, hQ1, l1, y1, z1⟩, st1⟩ := X0.specialBack hx (y := (⟨"java/lang/Record", "<init>", "()V"⟩ : MethodName)) rfl hown (mvT hZ (hw _ (List.mem_of_getElem? (i := 10) rfl))) (mvT hZ (hw _ (List.mem_of_getElem? (i := 11) rfl))) (mvT hZ (hw _ (List.mem_of_getElem? (i := 14) rfl))) (by decide) (backOf (W := 0) (rmRec l Z a0 hw [] wN wNE wSE wS wSW wNW GS a h0 n0 (by omega) O0 ) hZ (hw _ (List.mem_of_getElem? (i := 14) rfl)) (hw _ (List.mem_of_getElem? (i := 13) rfl)) (by decide) (by decide)) (g := (mkF m 1 #[.val (.ref a), .val (.int q), .val (.int r)] [(.ref a)])) rfl (by rw [hml]; rfl) (Steps.refl _) (a := a) (argsL := []) (rest := []) (lenOf own_pd_0 rfl) rfl (by show 2 * 0 + _ ≤ _; exact Nat.le_of_eq rfl) (hb hby own_d1_1) (fun _ _ => ⟨rfl, e0, (by decide : 0 + 0 ≤ _), (by decide : 0 + 0 ≤ _)⟩)
  dsimp only [Pt.U, Pt.locs, Pt.cells, Pt.slots] at X1 l1 y1 z1 st1 hQ1
  subst l1 y1 z1
  obtain ⟨rfl, N1q, e1⟩ := hQ1
  have N2 := Fr.app N0 N1q
  refine own_by (T' := T1) (g' := (mkF m 4 #[.val (.ref a), .val (.int q), .val (.int r)] [])) (fun _ kt_ => st1.trans kt_) ?_
  refine own_by (T' := T1) (g' := (mkF m 5 #[.val (.ref a), .val (.int q), .val (.int r)] [(.ref a)])) (fun _ kt_ => XS.aloadN X1.here hx rfl (hb hby own_d1_4) rfl rfl kt_) ?_
  refine own_by (T' := T1) (g' := (mkF m 6 #[.val (.ref a), .val (.int q), .val (.int r)] [(.int q), (.ref a)])) (fun _ kt_ => XS.iloadN X1.here hx rfl (hb hby own_d1_5) rfl kt_) ?_
  obtain ⟨T3, h3, X3, e3, W3, st3⟩ := putF X1 hx hZ hown (host := "") (Or.inl (hw _ (List.mem_of_getElem? (i := 18) rfl))) Via.refl e1 F_q E_a (Or.inr ⟨(hw _ (List.mem_of_getElem? (i := 19) rfl)), rfl, hnm⟩) (hw _ (List.mem_of_getElem? (i := 5) rfl)) (ty := .int) (by decide) rfl rfl (g := (mkF m 6 #[.val (.ref a), .val (.int q), .val (.int r)] [(.int q), (.ref a)])) rfl rfl (hb hby own_d1_6)
  have K4 : Keep h0 h3 [a] := Keep.of_wr W3
  have zzK4 : h0.size ≤ h3.size := K4.1
  have oo5 : Old Z n0 h3 := O0.keep K4 (allS (by omega : n0 ≤ a) all0)
  have kt6 : Keep h0 h3 [a] := KT0.trans K4 (allS (Or.inl (List.mem_of_getElem? (i := 0) rfl)) all0)
  have f7 : Fld Z h3 a "com/example/redoubt/redoubt/core/Cell" "q" "I" (.int q) := F_q.same W3
  have f8 : Fld Z h3 a "com/example/redoubt/redoubt/core/Cell" "r" "I" (.int (0 : Int32)) := F_r.other W3 (Or.inr (slot_ne (Or.inr (hw _ (List.mem_of_getElem? (i := 21) rfl))) (Or.inr (hw _ (List.mem_of_getElem? (i := 19) rfl))) (by decide) (t := .int) (t' := .int) (by decide) (by decide)))
  have N9 := Fr.snoc X3 N2 (by omega : n0 ≤ a)
  refine own_by (T' := T3) (g' := (mkF m 9 #[.val (.ref a), .val (.int q), .val (.int r)] [])) st3 ?_
  refine own_by (T' := T3) (g' := (mkF m 10 #[.val (.ref a), .val (.int q), .val (.int r)] [(.ref a)])) (fun _ kt_ => XS.aloadN X3.here hx rfl (hb hby own_d1_9) rfl rfl kt_) ?_
  refine own_by (T' := T3) (g' := (mkF m 11 #[.val (.ref a), .val (.int q), .val (.int r)] [(.int r), (.ref a)])) (fun _ kt_ => XS.iloadN X3.here hx rfl (hb hby own_d1_10) rfl kt_) ?_
  have f10 : Exa Z h3 a "com/example/redoubt/redoubt/core/Cell" := (E_a.keep K4)
  obtain ⟨T11, h11, X11, e11, W11, st11⟩ := putF X3 hx hZ hown (host := "") (Or.inl (hw _ (List.mem_of_getElem? (i := 20) rfl))) Via.refl e3 f8 f10 (Or.inr ⟨(hw _ (List.mem_of_getElem? (i := 21) rfl)), rfl, hnm⟩) (hw _ (List.mem_of_getElem? (i := 5) rfl)) (ty := .int) (by decide) rfl rfl (g := (mkF m 11 #[.val (.ref a), .val (.int q), .val (.int r)] [(.int r), (.ref a)])) rfl rfl (hb hby own_d1_11)
  have K12 : Keep h3 h11 [a] := Keep.of_wr W11
  have zzK12 : h3.size ≤ h11.size := K12.1
  have oo13 : Old Z n0 h11 := oo5.keep K12 (allS (by omega : n0 ≤ a) all0)
  have kt14 : Keep h0 h11 [a] := kt6.trans K12 (allS (Or.inl (List.mem_of_getElem? (i := 0) rfl)) all0)
  have f15 : Fld Z h11 a "com/example/redoubt/redoubt/core/Cell" "q" "I" (.int q) := f7.other W11 (Or.inr (slot_ne (Or.inr (hw _ (List.mem_of_getElem? (i := 19) rfl))) (Or.inr (hw _ (List.mem_of_getElem? (i := 21) rfl))) (by decide) (t := .int) (t' := .int) (by decide) (by decide)))
  have f16 : Fld Z h11 a "com/example/redoubt/redoubt/core/Cell" "r" "I" (.int r) := f8.same W11
  have N17 := Fr.snoc X11 N9 (by omega : n0 ≤ a)
  refine own_by (T' := T11) (g' := (mkF m 14 #[.val (.ref a), .val (.int q), .val (.int r)] [])) st11 ?_
  obtain ⟨fs18, hr18, hrun18, hended18, hW18, hsame18⟩ := X11.leave (v := none) (fun _ => rfl)
  refine ⟨_, _, X11.returnOut hx Bd.returns (hb hby own_d1_14) hr18, hrun18, hended18, _, _, rfl, ?_, ⟨_, rfl⟩, hW18, hsame18.mono (by decide) (by decide)⟩
  show Q_rmIni Z wN wNE wSE wS wSW wNW a q r h0 n0 _ T11.heap _
  rw [e11]
  exact ⟨rfl, N17, kt14, f15, f16⟩
theorem own_d5_0 : decode prog_7_method_4_code 0 = .ok (.aload_n 0, 1) := by decide +kernel
theorem own_d5_1 : decode prog_7_method_4_code 1 = .ok (.getfield 41, 3) := by decide +kernel
theorem own_d5_4 : decode prog_7_method_4_code 4 = .ok (.ireturn, 1) := by decide +kernel
theorem own_pn_com_example_redoubt_redoubt_core_Direction : plainName "com/example/redoubt/redoubt/core/Direction" = true := by first | (simp [plainName, overriddenIn]; done) | decide +kernel
theorem own_ef_rmDq (m : MethodId) (x0 : Addr) : entryFrame m #[(.ref x0)] 1 = mkF m 0 #[.val (.ref x0)] [] := by first | (simp [entryFrame, mkF, argsToLocals, Value.category]; done) | rfl
def Q_rmDq (Z : State) (wN : Addr) (wNE : Addr) (wSE : Addr) (wS : Addr) (wSW : Addr) (wNW : Addr) (a : Addr) (w : Int32) (h0 : Heap) (n0 : Nat) (vv_ : Option Value) (hh_ : Heap) (LL_ : List Loc) : Prop := vv_ = some (.int w) ∧ Fr n0 LL_ ∧ hh_ = h0
set_option maxRecDepth 65536 in
set_option maxHeartbeats 40000000 in
theorem rmDq (l : Launch) (Z : State) (a0 : Array Value) (hw : ∀ d ∈ tables_1, d.before a0 Z = true) (ws : List Jvm.Cond) (wN : Addr) (wNE : Addr) (wSE : Addr) (wS : Addr) (wSW : Addr) (wNW : Addr) (GS : Glob Z wN wNE wSE wS wSW wNW) (a : Addr) (w : Int32) (h0 : Heap) (n0 : Nat) (Z0 : n0 ≤ h0.size) (O0 : Old Z n0 h0) (Fw : Fld Z h0 a "com/example/redoubt/redoubt/core/Direction" "dq" "I" (.int w)) :
    MetFree l (⟨"com/example/redoubt/redoubt/core/Direction", "dq", "()I"⟩ : MethodName) (head1 (Jvm.Cond.code (⟨"com/example/redoubt/redoubt/core/Direction", "dq", "()I"⟩ : MethodName) prog_7_method_4_code 1 (some .int) :: ws) ({ frames := 0, cells := 0, slots := 0, locals := 0 } : Room)) (fun aa_ UU_ => aa_ = #[(.ref a)] ∧ Z.Warmed39 UU_.vm ∧ UU_.heap = h0) (fun _ _ _ _ _ => True) (fun _ UU_ oo_ UV_ => ∃ vv_ LL_, oo_ = .returned vv_ ∧ Q_rmDq Z wN wNE wSE wS wSW wNW a w h0 n0 vv_ UV_.heap LL_ ∧ FrameEnd UU_ oo_ UV_ LL_ ({ frames := 0, cells := 0, slots := 0, locals := 0 } : Room).cells ({ frames := 0, cells := 0, slots := 0, locals := 0 } : Room).slots) := by
  refine MetFree.of_bodySF (plainFor_of_name own_pn_com_example_redoubt_redoubt_core_Direction) hisR ?_
  intro p e s m args below meth c s₁ Bd hml0 hP hK
  obtain ⟨rfl, hZ, hh⟩ := hP
  have hx := Bd.exec
  have hby := Bd.bytes
  have hml : c.maxLocals = 1 := hml0
  have hown : s.vm.findClass "com/example/redoubt/redoubt/core/Direction" = some m.cls := findClass_of_methodNamed Bd.named
  have hnm := (name_of_methodNamed Bd.named Bd.method).1
  have X0 : Stand p l e ({ frames := 0, cells := 0, slots := 0, locals := 0 } : Room) s m #[(.ref a)] below meth c s₁ [] 0 0 := Stand.of_body Bd
  have e0 : s₁.heap = h0 := by rw [← hh, Bd.state]; rfl
  have N0 := Fr.nil n0
  have hn0 : Z.heap.size = n0 := O0.1
  have KT0 : Keep h0 h0 [] := Keep.refl _ _
  refine own_enter (Φ := fun oo_ UV_ => ∃ vv_ LL_, oo_ = .returned vv_ ∧ Q_rmDq Z wN wNE wSE wS wSW wNW a w h0 n0 vv_ UV_.heap LL_ ∧ FrameEnd s oo_ UV_ LL_ ({ frames := 0, cells := 0, slots := 0, locals := 0 } : Room).cells ({ frames := 0, cells := 0, slots := 0, locals := 0 } : Room).slots) (own_ef_rmDq m a) ?_
  refine own_by (T' := s₁) (g' := (mkF m 1 #[.val (.ref a)] [(.ref a)])) (fun _ kt_ => XS.aloadN X0.here hx rfl (hb hby own_d5_0) rfl rfl kt_) ?_
  obtain ⟨T1, X1, e1, st1⟩ := getF X0 hx hZ hown (host := "") (Or.inl (hw _ (List.mem_of_getElem? (i := 33) rfl))) Via.refl e0 Fw (g := (mkF m 1 #[.val (.ref a)] [(.ref a)])) rfl rfl (hb hby own_d5_1)
  refine own_by (T' := T1) (g' := (mkF m 4 #[.val (.ref a)] [(.int w)])) st1 ?_
  obtain ⟨fs2, hr2, hrun2, hended2, hW2, hsame2⟩ := X1.leave (v := some (.int w)) (fun h => by rw [Bd.returns] at h; cases h)
  refine ⟨_, _, retOut X1 hx (t := .int) Bd.returns rfl (Or.inl ⟨rfl, Or.inl rfl, _, rfl⟩) (hb hby own_d5_4) hr2, hrun2, hended2, _, _, rfl, ?_, ⟨_, rfl⟩, hW2, hsame2.mono (by decide) (by decide)⟩
  show Q_rmDq Z wN wNE wSE wS wSW wNW a w h0 n0 _ T1.heap _
  exact ⟨rfl, N0, e1⟩
theorem own_d6_0 : decode prog_7_method_5_code 0 = .ok (.aload_n 0, 1) := by decide +kernel
theorem own_d6_1 : decode prog_7_method_5_code 1 = .ok (.getfield 45, 3) := by decide +kernel
theorem own_d6_4 : decode prog_7_method_5_code 4 = .ok (.ireturn, 1) := by decide +kernel
theorem own_ef_rmDr (m : MethodId) (x0 : Addr) : entryFrame m #[(.ref x0)] 1 = mkF m 0 #[.val (.ref x0)] [] := by first | (simp [entryFrame, mkF, argsToLocals, Value.category]; done) | rfl
def Q_rmDr (Z : State) (wN : Addr) (wNE : Addr) (wSE : Addr) (wS : Addr) (wSW : Addr) (wNW : Addr) (a : Addr) (w : Int32) (h0 : Heap) (n0 : Nat) (vv_ : Option Value) (hh_ : Heap) (LL_ : List Loc) : Prop := vv_ = some (.int w) ∧ Fr n0 LL_ ∧ hh_ = h0
set_option maxRecDepth 65536 in
set_option maxHeartbeats 40000000 in
theorem rmDr (l : Launch) (Z : State) (a0 : Array Value) (hw : ∀ d ∈ tables_1, d.before a0 Z = true) (ws : List Jvm.Cond) (wN : Addr) (wNE : Addr) (wSE : Addr) (wS : Addr) (wSW : Addr) (wNW : Addr) (GS : Glob Z wN wNE wSE wS wSW wNW) (a : Addr) (w : Int32) (h0 : Heap) (n0 : Nat) (Z0 : n0 ≤ h0.size) (O0 : Old Z n0 h0) (Fw : Fld Z h0 a "com/example/redoubt/redoubt/core/Direction" "dr" "I" (.int w)) :
    MetFree l (⟨"com/example/redoubt/redoubt/core/Direction", "dr", "()I"⟩ : MethodName) (head1 (Jvm.Cond.code (⟨"com/example/redoubt/redoubt/core/Direction", "dr", "()I"⟩ : MethodName) prog_7_method_5_code 1 (some .int) :: ws) ({ frames := 0, cells := 0, slots := 0, locals := 0 } : Room)) (fun aa_ UU_ => aa_ = #[(.ref a)] ∧ Z.Warmed39 UU_.vm ∧ UU_.heap = h0) (fun _ _ _ _ _ => True) (fun _ UU_ oo_ UV_ => ∃ vv_ LL_, oo_ = .returned vv_ ∧ Q_rmDr Z wN wNE wSE wS wSW wNW a w h0 n0 vv_ UV_.heap LL_ ∧ FrameEnd UU_ oo_ UV_ LL_ ({ frames := 0, cells := 0, slots := 0, locals := 0 } : Room).cells ({ frames := 0, cells := 0, slots := 0, locals := 0 } : Room).slots) := by
  refine MetFree.of_bodySF (plainFor_of_name own_pn_com_example_redoubt_redoubt_core_Direction) hisR ?_
  intro p e s m args below meth c s₁ Bd hml0 hP hK
  obtain ⟨rfl, hZ, hh⟩ := hP
  have hx := Bd.exec
  have hby := Bd.bytes
  have hml : c.maxLocals = 1 := hml0
  have hown : s.vm.findClass "com/example/redoubt/redoubt/core/Direction" = some m.cls := findClass_of_methodNamed Bd.named
  have hnm := (name_of_methodNamed Bd.named Bd.method).1
  have X0 : Stand p l e ({ frames := 0, cells := 0, slots := 0, locals := 0 } : Room) s m #[(.ref a)] below meth c s₁ [] 0 0 := Stand.of_body Bd
  have e0 : s₁.heap = h0 := by rw [← hh, Bd.state]; rfl
  have N0 := Fr.nil n0
  have hn0 : Z.heap.size = n0 := O0.1
  have KT0 : Keep h0 h0 [] := Keep.refl _ _
  refine own_enter (Φ := fun oo_ UV_ => ∃ vv_ LL_, oo_ = .returned vv_ ∧ Q_rmDr Z wN wNE wSE wS wSW wNW a w h0 n0 vv_ UV_.heap LL_ ∧ FrameEnd s oo_ UV_ LL_ ({ frames := 0, cells := 0, slots := 0, locals := 0 } : Room).cells ({ frames := 0, cells := 0, slots := 0, locals := 0 } : Room).slots) (own_ef_rmDr m a) ?_
  refine own_by (T' := s₁) (g' := (mkF m 1 #[.val (.ref a)] [(.ref a)])) (fun _ kt_ => XS.aloadN X0.here hx rfl (hb hby own_d6_0) rfl rfl kt_) ?_
  obtain ⟨T1, X1, e1, st1⟩ := getF X0 hx hZ hown (host := "") (Or.inl (hw _ (List.mem_of_getElem? (i := 40) rfl))) Via.refl e0 Fw (g := (mkF m 1 #[.val (.ref a)] [(.ref a)])) rfl rfl (hb hby own_d6_1)
  refine own_by (T' := T1) (g' := (mkF m 4 #[.val (.ref a)] [(.int w)])) st1 ?_
  obtain ⟨fs2, hr2, hrun2, hended2, hW2, hsame2⟩ := X1.leave (v := some (.int w)) (fun h => by rw [Bd.returns] at h; cases h)
  refine ⟨_, _, retOut X1 hx (t := .int) Bd.returns rfl (Or.inl ⟨rfl, Or.inl rfl, _, rfl⟩) (hb hby own_d6_4) hr2, hrun2, hended2, _, _, rfl, ?_, ⟨_, rfl⟩, hW2, hsame2.mono (by decide) (by decide)⟩
  show Q_rmDr Z wN wNE wSE wS wSW wNW a w h0 n0 _ T1.heap _
  exact ⟨rfl, N0, e1⟩
theorem own_d7_0 : decode prog_4_method_6_code 0 = .ok (.aload_n 0, 1) := by decide +kernel
theorem own_d7_1 : decode prog_4_method_6_code 1 = .ok (.getfield 7, 3) := by decide +kernel
theorem own_d7_4 : decode prog_4_method_6_code 4 = .ok (.ireturn, 1) := by decide +kernel
theorem own_ef_rmQ (m : MethodId) (x0 : Addr) : entryFrame m #[(.ref x0)] 1 = mkF m 0 #[.val (.ref x0)] [] := by first | (simp [entryFrame, mkF, argsToLocals, Value.category]; done) | rfl
def Q_rmQ (Z : State) (wN : Addr) (wNE : Addr) (wSE : Addr) (wS : Addr) (wSW : Addr) (wNW : Addr) (a : Addr) (w : Int32) (h0 : Heap) (n0 : Nat) (vv_ : Option Value) (hh_ : Heap) (LL_ : List Loc) : Prop := vv_ = some (.int w) ∧ Fr n0 LL_ ∧ hh_ = h0
set_option maxRecDepth 65536 in
set_option maxHeartbeats 40000000 in
theorem rmQ (l : Launch) (Z : State) (a0 : Array Value) (hw : ∀ d ∈ tables_1, d.before a0 Z = true) (ws : List Jvm.Cond) (wN : Addr) (wNE : Addr) (wSE : Addr) (wS : Addr) (wSW : Addr) (wNW : Addr) (GS : Glob Z wN wNE wSE wS wSW wNW) (a : Addr) (w : Int32) (h0 : Heap) (n0 : Nat) (Z0 : n0 ≤ h0.size) (O0 : Old Z n0 h0) (Fw : Fld Z h0 a "com/example/redoubt/redoubt/core/Cell" "q" "I" (.int w)) :
    MetFree l (⟨"com/example/redoubt/redoubt/core/Cell", "q", "()I"⟩ : MethodName) (head1 (Jvm.Cond.code (⟨"com/example/redoubt/redoubt/core/Cell", "q", "()I"⟩ : MethodName) prog_4_method_6_code 1 (some .int) :: ws) ({ frames := 0, cells := 0, slots := 0, locals := 0 } : Room)) (fun aa_ UU_ => aa_ = #[(.ref a)] ∧ Z.Warmed39 UU_.vm ∧ UU_.heap = h0) (fun _ _ _ _ _ => True) (fun _ UU_ oo_ UV_ => ∃ vv_ LL_, oo_ = .returned vv_ ∧ Q_rmQ Z wN wNE wSE wS wSW wNW a w h0 n0 vv_ UV_.heap LL_ ∧ FrameEnd UU_ oo_ UV_ LL_ ({ frames := 0, cells := 0, slots := 0, locals := 0 } : Room).cells ({ frames := 0, cells := 0, slots := 0, locals := 0 } : Room).slots) := by
  refine MetFree.of_bodySF (plainFor_of_name own_pn_com_example_redoubt_redoubt_core_Cell) hisR ?_
  intro p e s m args below meth c s₁ Bd hml0 hP hK
  obtain ⟨rfl, hZ, hh⟩ := hP
  have hx := Bd.exec
  have hby := Bd.bytes
  have hml : c.maxLocals = 1 := hml0
  have hown : s.vm.findClass "com/example/redoubt/redoubt/core/Cell" = some m.cls := findClass_of_methodNamed Bd.named
  have hnm := (name_of_methodNamed Bd.named Bd.method).1
  have X0 : Stand p l e ({ frames := 0, cells := 0, slots := 0, locals := 0 } : Room) s m #[(.ref a)] below meth c s₁ [] 0 0 := Stand.of_body Bd
  have e0 : s₁.heap = h0 := by rw [← hh, Bd.state]; rfl
  have N0 := Fr.nil n0
  have hn0 : Z.heap.size = n0 := O0.1
  have KT0 : Keep h0 h0 [] := Keep.refl _ _
  refine own_enter (Φ := fun oo_ UV_ => ∃ vv_ LL_, oo_ = .returned vv_ ∧ Q_rmQ Z wN wNE wSE wS wSW wNW a w h0 n0 vv_ UV_.heap LL_ ∧ FrameEnd s oo_ UV_ LL_ ({ frames := 0, cells := 0, slots := 0, locals := 0 } : Room).cells ({ frames := 0, cells := 0, slots := 0, locals := 0 } : Room).slots) (own_ef_rmQ m a) ?_
  refine own_by (T' := s₁) (g' := (mkF m 1 #[.val (.ref a)] [(.ref a)])) (fun _ kt_ => XS.aloadN X0.here hx rfl (hb hby own_d7_0) rfl rfl kt_) ?_
  obtain ⟨T1, X1, e1, st1⟩ := getF X0 hx hZ hown (host := "") (Or.inl (hw _ (List.mem_of_getElem? (i := 18) rfl))) Via.refl e0 Fw (g := (mkF m 1 #[.val (.ref a)] [(.ref a)])) rfl rfl (hb hby own_d7_1)
  refine own_by (T' := T1) (g' := (mkF m 4 #[.val (.ref a)] [(.int w)])) st1 ?_
  obtain ⟨fs2, hr2, hrun2, hended2, hW2, hsame2⟩ := X1.leave (v := some (.int w)) (fun h => by rw [Bd.returns] at h; cases h)
  refine ⟨_, _, retOut X1 hx (t := .int) Bd.returns rfl (Or.inl ⟨rfl, Or.inl rfl, _, rfl⟩) (hb hby own_d7_4) hr2, hrun2, hended2, _, _, rfl, ?_, ⟨_, rfl⟩, hW2, hsame2.mono (by decide) (by decide)⟩
  show Q_rmQ Z wN wNE wSE wS wSW wNW a w h0 n0 _ T1.heap _
  exact ⟨rfl, N0, e1⟩
theorem own_d8_0 : decode prog_4_method_7_code 0 = .ok (.aload_n 0, 1) := by decide +kernel
theorem own_d8_1 : decode prog_4_method_7_code 1 = .ok (.getfield 13, 3) := by decide +kernel
theorem own_d8_4 : decode prog_4_method_7_code 4 = .ok (.ireturn, 1) := by decide +kernel
theorem own_ef_rmR (m : MethodId) (x0 : Addr) : entryFrame m #[(.ref x0)] 1 = mkF m 0 #[.val (.ref x0)] [] := by first | (simp [entryFrame, mkF, argsToLocals, Value.category]; done) | rfl
def Q_rmR (Z : State) (wN : Addr) (wNE : Addr) (wSE : Addr) (wS : Addr) (wSW : Addr) (wNW : Addr) (a : Addr) (w : Int32) (h0 : Heap) (n0 : Nat) (vv_ : Option Value) (hh_ : Heap) (LL_ : List Loc) : Prop := vv_ = some (.int w) ∧ Fr n0 LL_ ∧ hh_ = h0
set_option maxRecDepth 65536 in
set_option maxHeartbeats 40000000 in
theorem rmR (l : Launch) (Z : State) (a0 : Array Value) (hw : ∀ d ∈ tables_1, d.before a0 Z = true) (ws : List Jvm.Cond) (wN : Addr) (wNE : Addr) (wSE : Addr) (wS : Addr) (wSW : Addr) (wNW : Addr) (GS : Glob Z wN wNE wSE wS wSW wNW) (a : Addr) (w : Int32) (h0 : Heap) (n0 : Nat) (Z0 : n0 ≤ h0.size) (O0 : Old Z n0 h0) (Fw : Fld Z h0 a "com/example/redoubt/redoubt/core/Cell" "r" "I" (.int w)) :
    MetFree l (⟨"com/example/redoubt/redoubt/core/Cell", "r", "()I"⟩ : MethodName) (head1 (Jvm.Cond.code (⟨"com/example/redoubt/redoubt/core/Cell", "r", "()I"⟩ : MethodName) prog_4_method_7_code 1 (some .int) :: ws) ({ frames := 0, cells := 0, slots := 0, locals := 0 } : Room)) (fun aa_ UU_ => aa_ = #[(.ref a)] ∧ Z.Warmed39 UU_.vm ∧ UU_.heap = h0) (fun _ _ _ _ _ => True) (fun _ UU_ oo_ UV_ => ∃ vv_ LL_, oo_ = .returned vv_ ∧ Q_rmR Z wN wNE wSE wS wSW wNW a w h0 n0 vv_ UV_.heap LL_ ∧ FrameEnd UU_ oo_ UV_ LL_ ({ frames := 0, cells := 0, slots := 0, locals := 0 } : Room).cells ({ frames := 0, cells := 0, slots := 0, locals := 0 } : Room).slots) := by
  refine MetFree.of_bodySF (plainFor_of_name own_pn_com_example_redoubt_redoubt_core_Cell) hisR ?_
  intro p e s m args below meth c s₁ Bd hml0 hP hK
  obtain ⟨rfl, hZ, hh⟩ := hP
  have hx := Bd.exec
  have hby := Bd.bytes
  have hml : c.maxLocals = 1 := hml0
  have hown : s.vm.findClass "com/example/redoubt/redoubt/core/Cell" = some m.cls := findClass_of_methodNamed Bd.named
  have hnm := (name_of_methodNamed Bd.named Bd.method).1
  have X0 : Stand p l e ({ frames := 0, cells := 0, slots := 0, locals := 0 } : Room) s m #[(.ref a)] below meth c s₁ [] 0 0 := Stand.of_body Bd
  have e0 : s₁.heap = h0 := by rw [← hh, Bd.state]; rfl
  have N0 := Fr.nil n0
  have hn0 : Z.heap.size = n0 := O0.1
  have KT0 : Keep h0 h0 [] := Keep.refl _ _
  refine own_enter (Φ := fun oo_ UV_ => ∃ vv_ LL_, oo_ = .returned vv_ ∧ Q_rmR Z wN wNE wSE wS wSW wNW a w h0 n0 vv_ UV_.heap LL_ ∧ FrameEnd s oo_ UV_ LL_ ({ frames := 0, cells := 0, slots := 0, locals := 0 } : Room).cells ({ frames := 0, cells := 0, slots := 0, locals := 0 } : Room).slots) (own_ef_rmR m a) ?_
  refine own_by (T' := s₁) (g' := (mkF m 1 #[.val (.ref a)] [(.ref a)])) (fun _ kt_ => XS.aloadN X0.here hx rfl (hb hby own_d8_0) rfl rfl kt_) ?_
  obtain ⟨T1, X1, e1, st1⟩ := getF X0 hx hZ hown (host := "") (Or.inl (hw _ (List.mem_of_getElem? (i := 20) rfl))) Via.refl e0 Fw (g := (mkF m 1 #[.val (.ref a)] [(.ref a)])) rfl rfl (hb hby own_d8_1)
  refine own_by (T' := T1) (g' := (mkF m 4 #[.val (.ref a)] [(.int w)])) st1 ?_
  obtain ⟨fs2, hr2, hrun2, hended2, hW2, hsame2⟩ := X1.leave (v := some (.int w)) (fun h => by rw [Bd.returns] at h; cases h)
  refine ⟨_, _, retOut X1 hx (t := .int) Bd.returns rfl (Or.inl ⟨rfl, Or.inl rfl, _, rfl⟩) (hb hby own_d8_4) hr2, hrun2, hended2, _, _, rfl, ?_, ⟨_, rfl⟩, hW2, hsame2.mono (by decide) (by decide)⟩
  show Q_rmR Z wN wNE wSE wS wSW wNW a w h0 n0 _ T1.heap _
  exact ⟨rfl, N0, e1⟩
theorem own_pd_1 : parseMethodDescriptor "()I" = some ⟨[], some .int⟩ := by decide +kernel
theorem own_pd_2 : parseMethodDescriptor "(II)V" = some ⟨[.int, .int], none⟩ := by decide +kernel
theorem own_d4_0 : decode prog_4_method_2_code 0 = .ok (.new 8, 3) := by decide +kernel
theorem own_d4_3 : decode prog_4_method_2_code 3 = .ok (.dup, 1) := by decide +kernel
theorem own_d4_4 : decode prog_4_method_2_code 4 = .ok (.aload_n 0, 1) := by decide +kernel
theorem own_d4_5 : decode prog_4_method_2_code 5 = .ok (.getfield 7, 3) := by decide +kernel
theorem own_d4_8 : decode prog_4_method_2_code 8 = .ok (.aload_n 1, 1) := by decide +kernel
theorem own_d4_9 : decode prog_4_method_2_code 9 = .ok (.invokevirtual 16, 3) := by decide +kernel
theorem own_d4_12 : decode prog_4_method_2_code 12 = .ok (.iadd, 1) := by decide +kernel
theorem own_d4_13 : decode prog_4_method_2_code 13 = .ok (.aload_n 0, 1) := by decide +kernel
theorem own_d4_14 : decode prog_4_method_2_code 14 = .ok (.getfield 13, 3) := by decide +kernel
theorem own_d4_17 : decode prog_4_method_2_code 17 = .ok (.aload_n 1, 1) := by decide +kernel
theorem own_d4_18 : decode prog_4_method_2_code 18 = .ok (.invokevirtual 22, 3) := by decide +kernel
theorem own_d4_21 : decode prog_4_method_2_code 21 = .ok (.iadd, 1) := by decide +kernel
theorem own_d4_22 : decode prog_4_method_2_code 22 = .ok (.invokespecial 25, 3) := by decide +kernel
theorem own_d4_25 : decode prog_4_method_2_code 25 = .ok (.areturn, 1) := by decide +kernel
theorem own_ef_rmStep (m : MethodId) (x0 : Addr) (x1 : Addr) : entryFrame m #[(.ref x0), (.ref x1)] 2 = mkF m 0 #[.val (.ref x0), .val (.ref x1)] [] := by first | (simp [entryFrame, mkF, argsToLocals, Value.category]; done) | rfl
def Q_rmStep (Z : State) (wN : Addr) (wNE : Addr) (wSE : Addr) (wS : Addr) (wSW : Addr) (wNW : Addr) (a : Addr) (d : Addr) (q : Int32) (r : Int32) (dq : Int32) (dr : Int32) (h0 : Heap) (n0 : Nat) (vv_ : Option Value) (hh_ : Heap) (LL_ : List Loc) : Prop := ∃ b : Addr, vv_ = some (.ref b) ∧ Fr n0 LL_ ∧ Keep h0 hh_ [] ∧ h0.size ≤ b ∧ Exa Z hh_ b "com/example/redoubt/redoubt/core/Cell" ∧ Fld Z hh_ b "com/example/redoubt/redoubt/core/Cell" "q" "I" (.int (q + dq)) ∧ Fld Z hh_ b "com/example/redoubt/redoubt/core/Cell" "r" "I" (.int (r + dr))
set_option maxRecDepth 65536 in
set_option maxHeartbeats 40000000 in
theorem rmStep (l : Launch) (Z : State) (a0 : Array Value) (hw : ∀ d ∈ tables_1, d.before a0 Z = true) (ws : List Jvm.Cond) (wN : Addr) (wNE : Addr) (wSE : Addr) (wS : Addr) (wSW : Addr) (wNW : Addr) (GS : Glob Z wN wNE wSE wS wSW wNW) (a : Addr) (d : Addr) (q : Int32) (r : Int32) (dq : Int32) (dr : Int32) (h0 : Heap) (n0 : Nat) (Z0 : n0 ≤ h0.size) (O0 : Old Z n0 h0) (Fq : Fld Z h0 a "com/example/redoubt/redoubt/core/Cell" "q" "I" (.int q)) (Fr_ : Fld Z h0 a "com/example/redoubt/redoubt/core/Cell" "r" "I" (.int r)) (Ed : Exa Z h0 d "com/example/redoubt/redoubt/core/Direction") (Fdq : Fld Z h0 d "com/example/redoubt/redoubt/core/Direction" "dq" "I" (.int dq)) (Fdr : Fld Z h0 d "com/example/redoubt/redoubt/core/Direction" "dr" "I" (.int dr)) :
    MetFree l (⟨"com/example/redoubt/redoubt/core/Cell", "step", "(Lcom/example/redoubt/redoubt/core/Direction;)Lcom/example/redoubt/redoubt/core/Cell;"⟩ : MethodName) (head1 (Jvm.Cond.code (⟨"com/example/redoubt/redoubt/core/Cell", "step", "(Lcom/example/redoubt/redoubt/core/Direction;)Lcom/example/redoubt/redoubt/core/Cell;"⟩ : MethodName) prog_4_method_2_code 2 (some (.object "com/example/redoubt/redoubt/core/Cell")) :: ws) ({ frames := 3, cells := 1, slots := 2, locals := 39 } : Room)) (fun aa_ UU_ => aa_ = #[(.ref a), (.ref d)] ∧ Z.Warmed39 UU_.vm ∧ UU_.heap = h0) (fun _ _ _ _ _ => True) (fun _ UU_ oo_ UV_ => ∃ vv_ LL_, oo_ = .returned vv_ ∧ Q_rmStep Z wN wNE wSE wS wSW wNW a d q r dq dr h0 n0 vv_ UV_.heap LL_ ∧ FrameEnd UU_ oo_ UV_ LL_ ({ frames := 3, cells := 1, slots := 2, locals := 39 } : Room).cells ({ frames := 3, cells := 1, slots := 2, locals := 39 } : Room).slots) := by
  refine MetFree.of_bodySF (plainFor_of_name own_pn_com_example_redoubt_redoubt_core_Cell) hisR ?_
  intro p e s m args below meth c s₁ Bd hml0 hP hK
  obtain ⟨rfl, hZ, hh⟩ := hP
  have hx := Bd.exec
  have hby := Bd.bytes
  have hml : c.maxLocals = 2 := hml0
  have hown : s.vm.findClass "com/example/redoubt/redoubt/core/Cell" = some m.cls := findClass_of_methodNamed Bd.named
  have hnm := (name_of_methodNamed Bd.named Bd.method).1
  have X0 : Stand p l e ({ frames := 3, cells := 1, slots := 2, locals := 39 } : Room) s m #[(.ref a), (.ref d)] below meth c s₁ [] 0 0 := Stand.of_body Bd
  have e0 : s₁.heap = h0 := by rw [← hh, Bd.state]; rfl
  have N0 := Fr.nil n0
  have hn0 : Z.heap.size = n0 := O0.1
  have KT0 : Keep h0 h0 [] := Keep.refl _ _
  refine own_enter (Φ := fun oo_ UV_ => ∃ vv_ LL_, oo_ = .returned vv_ ∧ Q_rmStep Z wN wNE wSE wS wSW wNW a d q r dq dr h0 n0 vv_ UV_.heap LL_ ∧ FrameEnd s oo_ UV_ LL_ ({ frames := 3, cells := 1, slots := 2, locals := 39 } : Room).cells ({ frames := 3, cells := 1, slots := 2, locals := 39 } : Room).slots) (own_ef_rmStep m a d) ?_
  obtain ⟨T1, h1, X1, e1, E1, A1, D1, -, st1⟩ := newO X0 hx hZ hown (hw _ (List.mem_of_getElem? (i := 27) rfl)) (hw _ (List.mem_of_getElem? (i := 5) rfl)) (hw _ (List.mem_of_getElem? (i := 6) rfl)) e0 (g := (mkF m 0 #[.val (.ref a), .val (.ref d)] [])) rfl (hb hby own_d4_0) (by decide) (by decide)
  obtain ⟨b1, g1⟩ : ∃ z, z = h0.size := ⟨_, rfl⟩
  rw [← g1] at A1 D1 st1
  have K2 : Keep h0 h1 [] := own_kext E1
  have zzK2 : h0.size ≤ h1.size := K2.1
  have oo3 : Old Z n0 h1 := O0.keep K2 all0
  have kt4 : Keep h0 h1 [] := KT0.trans K2 all0
  have lab1 := A1.lt
  have f5 : Fld Z h1 b1 "com/example/redoubt/redoubt/core/Cell" "q" "I" (.int (0 : Int32)) := D1 (Or.inr (hw _ (List.mem_of_getElem? (i := 19) rfl))) (ty := .int) (by decide)
  have f6 : Fld Z h1 b1 "com/example/redoubt/redoubt/core/Cell" "r" "I" (.int (0 : Int32)) := D1 (Or.inr (hw _ (List.mem_of_getElem? (i := 21) rfl))) (ty := .int) (by decide)
  refine own_by (T' := T1) (g' := (mkF m 3 #[.val (.ref a), .val (.ref d)] [(.ref b1)])) st1 ?_
  refine own_by (T' := T1) (g' := (mkF m 4 #[.val (.ref a), .val (.ref d)] [(.ref b1), (.ref b1)])) (fun _ kt_ => XS.dup X1.here hx rfl (hb hby own_d4_3) rfl rfl kt_) ?_
  refine own_by (T' := T1) (g' := (mkF m 5 #[.val (.ref a), .val (.ref d)] [(.ref a), (.ref b1), (.ref b1)])) (fun _ kt_ => XS.aloadN X1.here hx rfl (hb hby own_d4_4) rfl rfl kt_) ?_
  have f7 : Fld Z h1 a "com/example/redoubt/redoubt/core/Cell" "q" "I" (.int q) := (Fq.keep K2 nin0)
  obtain ⟨T8, X8, e8, st8⟩ := getF X1 hx hZ hown (host := "") (Or.inl (hw _ (List.mem_of_getElem? (i := 18) rfl))) Via.refl e1 f7 (g := (mkF m 5 #[.val (.ref a), .val (.ref d)] [(.ref a), (.ref b1), (.ref b1)])) rfl rfl (hb hby own_d4_5)
  refine own_by (T' := T8) (g' := (mkF m 8 #[.val (.ref a), .val (.ref d)] [(.int q), (.ref b1), (.ref b1)])) st8 ?_
  refine own_by (T' := T8) (g' := (mkF m 9 #[.val (.ref a), .val (.ref d)] [(.ref d), (.int q), (.ref b1), (.ref b1)])) (fun _ kt_ => XS.aloadN X8.here hx rfl (hb hby own_d4_8) rfl rfl kt_) ?_
  have f9 : Fld Z h1 d "com/example/redoubt/redoubt/core/Direction" "dq" "I" (.int dq) := (Fdq.keep K2 nin0)
  have f11 : Exa Z h1 d "com/example/redoubt/redoubt/core/Direction" := (Ed.keep K2)
  obtain ⟨cq10, kq10, q10a, q10b, q10c⟩ := isOf hZ e8 f11
  obtain ⟨_, _, ⟨T10, L10, k10, n10⟩, -, X10, ⟨Lc10, hQ10, l10, y10, z10⟩, st10⟩ := X8.virtualBack hx (y := (⟨"com/example/redoubt/redoubt/core/Direction", "dq", "()I"⟩ : MethodName)) (z := (⟨"com/example/redoubt/redoubt/core/Direction", "dq", "()I"⟩ : MethodName)) hown (mvT hZ (hw _ (List.mem_of_getElem? (i := 28) rfl))) (mvT hZ (hw _ (List.mem_of_getElem? (i := 29) rfl))) (notFace_of_selects (args := #[]) (mvT hZ (hw _ (List.mem_of_getElem? (i := 31) rfl)))) (mvT hZ (hw _ (List.mem_of_getElem? (i := 31) rfl))) (mvT hZ (hw _ (List.mem_of_getElem? (i := 30) rfl))) (by decide) (backOf (W := 3) (rmDq l Z a0 hw [] wN wNE wSE wS wSW wNW GS d dq h1 n0 (by omega) oo3 f9) hZ (hw _ (List.mem_of_getElem? (i := 32) rfl)) (hw _ (List.mem_of_getElem? (i := 2) rfl)) (by decide) (by decide)) q10a q10c (g := (mkF m 9 #[.val (.ref a), .val (.ref d)] [(.ref d), (.int q), (.ref b1), (.ref b1)])) rfl (by rw [hml]; rfl) (Steps.refl _) (argsL := []) (rest := [(.int q), (.ref b1), (.ref b1)]) (lenOf own_pd_1 rfl) rfl (by show 2 * 0 + _ ≤ _; exact Nat.le_of_eq rfl) (hb hby own_d4_9) (fun _ _ => ⟨rfl, e8, (by decide : 1 + 0 ≤ _), (by decide : 2 + 0 ≤ _)⟩)
  dsimp only [Pt.U, Pt.locs, Pt.cells, Pt.slots] at X10 l10 y10 z10 st10 hQ10
  subst l10 y10 z10
  obtain ⟨rfl, N10q, e10⟩ := hQ10
  have N12 := Fr.app N0 N10q
  refine own_by (T' := T10) (g' := (mkF m 12 #[.val (.ref a), .val (.ref d)] [(.int dq), (.int q), (.ref b1), (.ref b1)])) (fun _ kt_ => st10.trans kt_) ?_
  refine own_by (T' := T10) (g' := (mkF m 13 #[.val (.ref a), .val (.ref d)] [(.int (q + dq)), (.ref b1), (.ref b1)])) (fun _ kt_ => XS.iadd X10.here hx rfl (hb hby own_d4_12) rfl kt_) ?_
  refine own_by (T' := T10) (g' := (mkF m 14 #[.val (.ref a), .val (.ref d)] [(.ref a), (.int (q + dq)), (.ref b1), (.ref b1)])) (fun _ kt_ => XS.aloadN X10.here hx rfl (hb hby own_d4_13) rfl rfl kt_) ?_
  have f13 : Fld Z h1 a "com/example/redoubt/redoubt/core/Cell" "r" "I" (.int r) := (Fr_.keep K2 nin0)
  obtain ⟨T14, X14, e14, st14⟩ := getF X10 hx hZ hown (host := "") (Or.inl (hw _ (List.mem_of_getElem? (i := 20) rfl))) Via.refl e10 f13 (g := (mkF m 14 #[.val (.ref a), .val (.ref d)] [(.ref a), (.int (q + dq)), (.ref b1), (.ref b1)])) rfl rfl (hb hby own_d4_14)
  refine own_by (T' := T14) (g' := (mkF m 17 #[.val (.ref a), .val (.ref d)] [(.int r), (.int (q + dq)), (.ref b1), (.ref b1)])) st14 ?_
  refine own_by (T' := T14) (g' := (mkF m 18 #[.val (.ref a), .val (.ref d)] [(.ref d), (.int r), (.int (q + dq)), (.ref b1), (.ref b1)])) (fun _ kt_ => XS.aloadN X14.here hx rfl (hb hby own_d4_17) rfl rfl kt_) ?_
  have f15 : Fld Z h1 d "com/example/redoubt/redoubt/core/Direction" "dr" "I" (.int dr) := (Fdr.keep K2 nin0)
  obtain ⟨cq16, kq16, q16a, q16b, q16c⟩ := isOf hZ e14 f11
  obtain ⟨_, _, ⟨T16, L16, k16, n16⟩, -, X16, ⟨Lc16, hQ16, l16, y16, z16⟩, st16⟩ := X14.virtualBack hx (y := (⟨"com/example/redoubt/redoubt/core/Direction", "dr", "()I"⟩ : MethodName)) (z := (⟨"com/example/redoubt/redoubt/core/Direction", "dr", "()I"⟩ : MethodName)) hown (mvT hZ (hw _ (List.mem_of_getElem? (i := 35) rfl))) (mvT hZ (hw _ (List.mem_of_getElem? (i := 36) rfl))) (notFace_of_selects (args := #[]) (mvT hZ (hw _ (List.mem_of_getElem? (i := 38) rfl)))) (mvT hZ (hw _ (List.mem_of_getElem? (i := 38) rfl))) (mvT hZ (hw _ (List.mem_of_getElem? (i := 37) rfl))) (by decide) (backOf (W := 4) (rmDr l Z a0 hw [] wN wNE wSE wS wSW wNW GS d dr h1 n0 (by omega) oo3 f15) hZ (hw _ (List.mem_of_getElem? (i := 39) rfl)) (hw _ (List.mem_of_getElem? (i := 2) rfl)) (by decide) (by decide)) q16a q16c (g := (mkF m 18 #[.val (.ref a), .val (.ref d)] [(.ref d), (.int r), (.int (q + dq)), (.ref b1), (.ref b1)])) rfl (by rw [hml]; rfl) (Steps.refl _) (argsL := []) (rest := [(.int r), (.int (q + dq)), (.ref b1), (.ref b1)]) (lenOf own_pd_1 rfl) rfl (by show 2 * 0 + _ ≤ _; exact Nat.le_of_eq rfl) (hb hby own_d4_18) (fun _ _ => ⟨rfl, e14, (by decide : 1 + 0 ≤ _), (by decide : 2 + 0 ≤ _)⟩)
  dsimp only [Pt.U, Pt.locs, Pt.cells, Pt.slots] at X16 l16 y16 z16 st16 hQ16
  subst l16 y16 z16
  obtain ⟨rfl, N16q, e16⟩ := hQ16
  have N17 := Fr.app N12 N16q
  refine own_by (T' := T16) (g' := (mkF m 21 #[.val (.ref a), .val (.ref d)] [(.int dr), (.int r), (.int (q + dq)), (.ref b1), (.ref b1)])) (fun _ kt_ => st16.trans kt_) ?_
  refine own_by (T' := T16) (g' := (mkF m 22 #[.val (.ref a), .val (.ref d)] [(.int (r + dr)), (.int (q + dq)), (.ref b1), (.ref b1)])) (fun _ kt_ => XS.iadd X16.here hx rfl (hb hby own_d4_21) rfl kt_) ?_
  obtain ⟨_, _, ⟨T18, L18, k18, n18⟩, -, X18, ⟨Lc18, hQ18, l18, y18, z18⟩, st18⟩ := X16.specialBack hx (y := (⟨"com/example/redoubt/redoubt/core/Cell", "<init>", "(II)V"⟩ : MethodName)) rfl hown (mvT hZ (hw _ (List.mem_of_getElem? (i := 42) rfl))) (mvT hZ (hw _ (List.mem_of_getElem? (i := 8) rfl))) (mvT hZ (hw _ (List.mem_of_getElem? (i := 9) rfl))) (by decide) (backOf (W := 1) (rmIni l Z a0 hw [] wN wNE wSE wS wSW wNW GS b1 (q + dq) (r + dr) h1 n0 (by omega) oo3 A1 (by omega) f5 f6) hZ (hw _ (List.mem_of_getElem? (i := 9) rfl)) (hw _ (List.mem_of_getElem? (i := 6) rfl)) (by decide) (by decide)) (g := (mkF m 22 #[.val (.ref a), .val (.ref d)] [(.int (r + dr)), (.int (q + dq)), (.ref b1), (.ref b1)])) rfl (by rw [hml]; rfl) (Steps.refl _) (a := b1) (argsL := [(.int (q + dq)), (.int (r + dr))]) (rest := [(.ref b1)]) (lenOf own_pd_2 rfl) rfl (by show 2 * 0 + _ ≤ _; exact Nat.le_of_eq rfl) (hb hby own_d4_22) (fun _ _ => ⟨rfl, e16, (by decide : 1 + 0 ≤ _), (by decide : 2 + 0 ≤ _)⟩)
  dsimp only [Pt.U, Pt.locs, Pt.cells, Pt.slots] at X18 l18 y18 z18 st18 hQ18
  subst l18 y18 z18
  obtain ⟨rfl, N18q, K18, p18_0, p18_1⟩ := hQ18
  have N19 := Fr.app N17 N18q
  have zzK18 : h1.size ≤ T18.heap.size := K18.1
  have oo20 : Old Z n0 T18.heap := oo3.keep K18 (allS (by omega : n0 ≤ b1) all0)
  have kt21 : Keep h0 T18.heap [] := kt4.trans K18 (allS (Or.inr (by omega : h0.size ≤ b1)) all0)
  refine own_by (T' := T18) (g' := (mkF m 25 #[.val (.ref a), .val (.ref d)] [(.ref b1)])) (fun _ kt_ => st18.trans kt_) ?_
  have f22 : Exa Z T18.heap b1 "com/example/redoubt/redoubt/core/Cell" := (A1.keep K18)
  obtain ⟨fs23, hr23, hrun23, hended23, hW23, hsame23⟩ := X18.leave (v := some (.ref b1)) (fun h => by rw [Bd.returns] at h; cases h)
  refine ⟨_, _, retOut X18 hx (t := (.object "com/example/redoubt/redoubt/core/Cell")) Bd.returns rfl (Or.inr (Or.inr (Or.inr (Or.inr ⟨rfl, rfl, rfl⟩)))) (hb hby own_d4_25) hr23, hrun23, hended23, _, _, rfl, ?_, ⟨_, rfl⟩, hW23, hsame23.mono (by decide) (by decide)⟩
  show Q_rmStep Z wN wNE wSE wS wSW wNW a d q r dq dr h0 n0 _ T18.heap _
  exact ⟨b1, rfl, N19, kt21, (by omega), f22, p18_0, p18_1⟩
theorem own_pd_3 : parseMethodDescriptor "(Lcom/example/redoubt/redoubt/core/Direction;)Lcom/example/redoubt/redoubt/core/Cell;" = some ⟨[(.object "com/example/redoubt/redoubt/core/Direction")], some (.object "com/example/redoubt/redoubt/core/Cell")⟩ := by decide +kernel
theorem own_pn_com_example_redoubt_redoubt_core_CellStepPinLaw : plainName "com/example/redoubt/redoubt/core/CellStepPinLaw" = true := by first | (simp [plainName, overriddenIn]; done) | decide +kernel
theorem own_ef_rm0 (m : MethodId) (x0 : Int32) (x1 : Int32) (x2 : Int32) : entryFrame m #[(.int x0), (.int x1), (.int x2)] maxLocals = mkF m 0 #[.val (.int x0), .val (.int x1), .val (.int x2), .unset, .unset, .unset, .unset, .unset, .unset] [] := by first | (simp [entryFrame, mkF, argsToLocals, Value.category, maxLocals]; done) | rfl
def Q_rm0 (Z : State) (wN : Addr) (wNE : Addr) (wSE : Addr) (wS : Addr) (wSW : Addr) (wNW : Addr) (p0 : Int32) (p1 : Int32) (p2 : Int32) (h0 : Heap) (n0 : Nat) (vv_ : Option Value) (hh_ : Heap) (LL_ : List Loc) : Prop := vv_ = some (.int (1 : Int32)) ∧ Fr n0 LL_
set_option maxRecDepth 65536 in
set_option maxHeartbeats 40000000 in
theorem rm0 (l : Launch) (Z : State) (a0 : Array Value) (hw : ∀ d ∈ tables_1, d.before a0 Z = true) (ws : List Jvm.Cond) (wN : Addr) (wNE : Addr) (wSE : Addr) (wS : Addr) (wSW : Addr) (wNW : Addr) (GS : Glob Z wN wNE wSE wS wSW wNW) (p0 : Int32) (p1 : Int32) (p2 : Int32) (h0 : Heap) (n0 : Nat) (Z0 : n0 ≤ h0.size) (O0 : Old Z n0 h0) :
    MetFree l x (head1 (Jvm.Cond.code x code maxLocals ret :: ws) room_1) (fun aa_ UU_ => aa_ = #[(.int p0), (.int p1), (.int p2)] ∧ Z.Warmed39 UU_.vm ∧ UU_.heap = h0) (fun _ _ _ _ _ => True) (fun _ UU_ oo_ UV_ => ∃ vv_ LL_, oo_ = .returned vv_ ∧ Q_rm0 Z wN wNE wSE wS wSW wNW p0 p1 p2 h0 n0 vv_ UV_.heap LL_ ∧ FrameEnd UU_ oo_ UV_ LL_ 2 4) := by
  refine MetFree.of_bodySF (plainFor_of_name own_pn_com_example_redoubt_redoubt_core_CellStepPinLaw) hisR ?_
  intro p e s m args below meth c s₁ Bd hml0 hP hK
  obtain ⟨rfl, hZ, hh⟩ := hP
  have hx := Bd.exec
  have hby := Bd.bytes
  have hml : c.maxLocals = 9 := hml0
  have hown : s.vm.findClass "com/example/redoubt/redoubt/core/CellStepPinLaw" = some m.cls := findClass_of_methodNamed Bd.named
  have hnm := (name_of_methodNamed Bd.named Bd.method).1
  have X0 : Stand p l e room_1 s m #[(.int p0), (.int p1), (.int p2)] below meth c s₁ [] 0 0 := Stand.of_body Bd
  have e0 : s₁.heap = h0 := by rw [← hh, Bd.state]; rfl
  have N0 := Fr.nil n0
  have hn0 : Z.heap.size = n0 := O0.1
  have KT0 : Keep h0 h0 [] := Keep.refl _ _
  refine own_enter (Φ := fun oo_ UV_ => ∃ vv_ LL_, oo_ = .returned vv_ ∧ Q_rm0 Z wN wNE wSE wS wSW wNW p0 p1 p2 h0 n0 vv_ UV_.heap LL_ ∧ FrameEnd s oo_ UV_ LL_ 2 4) (own_ef_rm0 m p0 p1 p2) ?_
  refine own_by (T' := s₁) (g' := (mkF m 1 #[.val (.int p0), .val (.int p1), .val (.int p2), .unset, .unset, .unset, .unset, .unset, .unset] [(.int p2)])) (fun _ kt_ => XS.iloadN X0.here hx rfl (hb hby at_0) rfl kt_) ?_
  refine own_by (T' := s₁) (g' := (mkF m 3 #[.val (.int p0), .val (.int p1), .val (.int p2), .unset, .unset, .unset, .unset, .unset, .unset] [(.int (2147483647 : Int32)), (.int p2)])) (fun _ kt_ => X0.ldcInt hx hown (mvT hZ (hw _ (List.mem_of_getElem? (i := 0) rfl))) (g := (mkF m 1 #[.val (.int p0), .val (.int p1), .val (.int p2), .unset, .unset, .unset, .unset, .unset, .unset] [(.int p2)])) rfl (hb hby at_1) _ kt_) ?_
  refine own_by (T' := s₁) (g' := (mkF m 4 #[.val (.int p0), .val (.int p1), .val (.int p2), .unset, .unset, .unset, .unset, .unset, .unset] [(.int (p2 &&& (2147483647 : Int32)))])) (fun _ kt_ => XS.iand X0.here hx rfl (hb hby at_3) rfl kt_) ?_
  refine own_by (T' := s₁) (g' := (mkF m 6 #[.val (.int p0), .val (.int p1), .val (.int p2), .unset, .unset, .unset, .unset, .unset, .unset] [(.int (6 : Int32)), (.int (p2 &&& (2147483647 : Int32)))])) (fun _ kt_ => XS.bipush X0.here hx rfl (hb hby at_4) kt_) ?_
  refine own_by (T' := s₁) (g' := (mkF m 7 #[.val (.int p0), .val (.int p1), .val (.int p2), .unset, .unset, .unset, .unset, .unset, .unset] [(.int ((p2 &&& (2147483647 : Int32)) % (6 : Int32)))])) (fun _ kt_ => iremM X0 hx rfl (hb hby at_6) rfl (by decide) kt_) ?_
  refine own_by (T' := s₁) (g' := (mkF m 8 #[.val (.int p0), .val (.int p1), .val (.int p2), .val (.int ((p2 &&& (2147483647 : Int32)) % (6 : Int32))), .unset, .unset, .unset, .unset, .unset] [])) (fun _ kt_ => XS.istoreN X0.here hx rfl (hb hby at_7) rfl (l' := #[.val (.int p0), .val (.int p1), .val (.int p2), .val (.int ((p2 &&& (2147483647 : Int32)) % (6 : Int32))), .unset, .unset, .unset, .unset, .unset]) rfl kt_) ?_
  refine own_by (T' := s₁) (g' := (mkF m 9 #[.val (.int p0), .val (.int p1), .val (.int p2), .val (.int ((p2 &&& (2147483647 : Int32)) % (6 : Int32))), .unset, .unset, .unset, .unset, .unset] [(.int ((p2 &&& (2147483647 : Int32)) % (6 : Int32)))])) (fun _ kt_ => XS.iloadN X0.here hx rfl (hb hby at_8) rfl kt_) ?_
  by_cases hc2 : ((p2 &&& (2147483647 : Int32)) % (6 : Int32)) = (0 : Int32)
  · refine own_by (T' := s₁) (g' := (mkF m 12 #[.val (.int p0), .val (.int p1), .val (.int p2), .val (.int ((p2 &&& (2147483647 : Int32)) % (6 : Int32))), .unset, .unset, .unset, .unset, .unset] [])) (fun _ kt_ => XS.ifNo X0.here hx rfl (hb hby at_9) rfl (XT.i0_ne_f hc2) kt_) ?_
    have f3 := GS.1.ext O0.2
    obtain ⟨T4, X4, e4, st4⟩ := getS2 X0 hx hZ hown (host := "") (Or.inl (hw _ (List.mem_of_getElem? (i := 59) rfl))) Via.refl e0 f3 (g := (mkF m 12 #[.val (.int p0), .val (.int p1), .val (.int p2), .val (.int ((p2 &&& (2147483647 : Int32)) % (6 : Int32))), .unset, .unset, .unset, .unset, .unset] [])) rfl (hb hby at_12)
    refine own_by (T' := T4) (g' := (mkF m 15 #[.val (.int p0), .val (.int p1), .val (.int p2), .val (.int ((p2 &&& (2147483647 : Int32)) % (6 : Int32))), .unset, .unset, .unset, .unset, .unset] [(.ref wN)])) st4 ?_
    refine own_by (T' := T4) (g' := (mkF m 17 #[.val (.int p0), .val (.int p1), .val (.int p2), .val (.int ((p2 &&& (2147483647 : Int32)) % (6 : Int32))), .val (.ref wN), .unset, .unset, .unset, .unset] [])) (fun _ kt_ => XS.astore X4.here hx rfl (hb hby at_15) rfl rfl (l' := #[.val (.int p0), .val (.int p1), .val (.int p2), .val (.int ((p2 &&& (2147483647 : Int32)) % (6 : Int32))), .val (.ref wN), .unset, .unset, .unset, .unset]) rfl kt_) ?_
    refine own_by (T' := T4) (g' := (mkF m 18 #[.val (.int p0), .val (.int p1), .val (.int p2), .val (.int ((p2 &&& (2147483647 : Int32)) % (6 : Int32))), .val (.ref wN), .unset, .unset, .unset, .unset] [(.int (0 : Int32))])) (fun _ kt_ => XS.iconst X4.here hx rfl (hb hby at_17) kt_) ?_
    refine own_by (T' := T4) (g' := (mkF m 20 #[.val (.int p0), .val (.int p1), .val (.int p2), .val (.int ((p2 &&& (2147483647 : Int32)) % (6 : Int32))), .val (.ref wN), .val (.int (0 : Int32)), .unset, .unset, .unset] [])) (fun _ kt_ => XS.istore X4.here hx rfl (hb hby at_18) rfl (l' := #[.val (.int p0), .val (.int p1), .val (.int p2), .val (.int ((p2 &&& (2147483647 : Int32)) % (6 : Int32))), .val (.ref wN), .val (.int (0 : Int32)), .unset, .unset, .unset]) rfl kt_) ?_
    refine own_by (T' := T4) (g' := (mkF m 21 #[.val (.int p0), .val (.int p1), .val (.int p2), .val (.int ((p2 &&& (2147483647 : Int32)) % (6 : Int32))), .val (.ref wN), .val (.int (0 : Int32)), .unset, .unset, .unset] [(.int (-1 : Int32))])) (fun _ kt_ => XS.iconst X4.here hx rfl (hb hby at_20) kt_) ?_
    refine own_by (T' := T4) (g' := (mkF m 23 #[.val (.int p0), .val (.int p1), .val (.int p2), .val (.int ((p2 &&& (2147483647 : Int32)) % (6 : Int32))), .val (.ref wN), .val (.int (0 : Int32)), .val (.int (-1 : Int32)), .unset, .unset] [])) (fun _ kt_ => XS.istore X4.here hx rfl (hb hby at_21) rfl (l' := #[.val (.int p0), .val (.int p1), .val (.int p2), .val (.int ((p2 &&& (2147483647 : Int32)) % (6 : Int32))), .val (.ref wN), .val (.int (0 : Int32)), .val (.int (-1 : Int32)), .unset, .unset]) rfl kt_) ?_
    refine own_by (T' := T4) (g' := (mkF m 113 #[.val (.int p0), .val (.int p1), .val (.int p2), .val (.int ((p2 &&& (2147483647 : Int32)) % (6 : Int32))), .val (.ref wN), .val (.int (0 : Int32)), .val (.int (-1 : Int32)), .unset, .unset] [])) (fun _ kt_ => XS.goto X4.here hx rfl (pc0 := 23) (pc' := 113) rfl (hb hby at_23) (by decide) (by decide) kt_) ?_
    obtain ⟨T5, h5, X5, e5, E5, A5, D5, -, st5⟩ := newO X4 hx hZ hown (hw _ (List.mem_of_getElem? (i := 4) rfl)) (hw _ (List.mem_of_getElem? (i := 5) rfl)) (hw _ (List.mem_of_getElem? (i := 6) rfl)) e4 (g := (mkF m 113 #[.val (.int p0), .val (.int p1), .val (.int p2), .val (.int ((p2 &&& (2147483647 : Int32)) % (6 : Int32))), .val (.ref wN), .val (.int (0 : Int32)), .val (.int (-1 : Int32)), .unset, .unset] [])) rfl (hb hby at_113) (by decide) (by decide)
    obtain ⟨b5, g5⟩ : ∃ z, z = h0.size := ⟨_, rfl⟩
    rw [← g5] at A5 D5 st5
    have K6 : Keep h0 h5 [] := own_kext E5
    have zzK6 : h0.size ≤ h5.size := K6.1
    have oo7 : Old Z n0 h5 := O0.keep K6 all0
    have kt8 : Keep h0 h5 [] := KT0.trans K6 all0
    have lab5 := A5.lt
    have f9 : Fld Z h5 b5 "com/example/redoubt/redoubt/core/Cell" "q" "I" (.int (0 : Int32)) := D5 (Or.inr (hw _ (List.mem_of_getElem? (i := 19) rfl))) (ty := .int) (by decide)
    have f10 : Fld Z h5 b5 "com/example/redoubt/redoubt/core/Cell" "r" "I" (.int (0 : Int32)) := D5 (Or.inr (hw _ (List.mem_of_getElem? (i := 21) rfl))) (ty := .int) (by decide)
    refine own_by (T' := T5) (g' := (mkF m 116 #[.val (.int p0), .val (.int p1), .val (.int p2), .val (.int ((p2 &&& (2147483647 : Int32)) % (6 : Int32))), .val (.ref wN), .val (.int (0 : Int32)), .val (.int (-1 : Int32)), .unset, .unset] [(.ref b5)])) st5 ?_
    refine own_by (T' := T5) (g' := (mkF m 117 #[.val (.int p0), .val (.int p1), .val (.int p2), .val (.int ((p2 &&& (2147483647 : Int32)) % (6 : Int32))), .val (.ref wN), .val (.int (0 : Int32)), .val (.int (-1 : Int32)), .unset, .unset] [(.ref b5), (.ref b5)])) (fun _ kt_ => XS.dup X5.here hx rfl (hb hby at_116) rfl rfl kt_) ?_
    refine own_by (T' := T5) (g' := (mkF m 118 #[.val (.int p0), .val (.int p1), .val (.int p2), .val (.int ((p2 &&& (2147483647 : Int32)) % (6 : Int32))), .val (.ref wN), .val (.int (0 : Int32)), .val (.int (-1 : Int32)), .unset, .unset] [(.int p0), (.ref b5), (.ref b5)])) (fun _ kt_ => XS.iloadN X5.here hx rfl (hb hby at_117) rfl kt_) ?_
    refine own_by (T' := T5) (g' := (mkF m 119 #[.val (.int p0), .val (.int p1), .val (.int p2), .val (.int ((p2 &&& (2147483647 : Int32)) % (6 : Int32))), .val (.ref wN), .val (.int (0 : Int32)), .val (.int (-1 : Int32)), .unset, .unset] [(.int p1), (.int p0), (.ref b5), (.ref b5)])) (fun _ kt_ => XS.iloadN X5.here hx rfl (hb hby at_118) rfl kt_) ?_
    obtain ⟨_, _, ⟨T11, L11, k11, n11⟩, -, X11, ⟨Lc11, hQ11, l11, y11, z11⟩, st11⟩ := X5.specialBack hx (y := (⟨"com/example/redoubt/redoubt/core/Cell", "<init>", "(II)V"⟩ : MethodName)) rfl hown (mvT hZ (hw _ (List.mem_of_getElem? (i := 7) rfl))) (mvT hZ (hw _ (List.mem_of_getElem? (i := 8) rfl))) (mvT hZ (hw _ (List.mem_of_getElem? (i := 9) rfl))) (by decide) (backOf (W := 1) (rmIni l Z a0 hw [] wN wNE wSE wS wSW wNW GS b5 p0 p1 h5 n0 (by omega) oo7 A5 (by omega) f9 f10) hZ (hw _ (List.mem_of_getElem? (i := 9) rfl)) (hw _ (List.mem_of_getElem? (i := 6) rfl)) (by decide) (by decide)) (g := (mkF m 119 #[.val (.int p0), .val (.int p1), .val (.int p2), .val (.int ((p2 &&& (2147483647 : Int32)) % (6 : Int32))), .val (.ref wN), .val (.int (0 : Int32)), .val (.int (-1 : Int32)), .unset, .unset] [(.int p1), (.int p0), (.ref b5), (.ref b5)])) rfl (by rw [hml]; rfl) (Steps.refl _) (a := b5) (argsL := [(.int p0), (.int p1)]) (rest := [(.ref b5)]) (lenOf own_pd_2 rfl) rfl (by show 2 * 0 + _ ≤ _; exact Nat.le_of_eq rfl) (hb hby at_119) (fun _ _ => ⟨rfl, e5, (by decide : 1 + 0 ≤ _), (by decide : 2 + 0 ≤ _)⟩)
    dsimp only [Pt.U, Pt.locs, Pt.cells, Pt.slots] at X11 l11 y11 z11 st11 hQ11
    subst l11 y11 z11
    obtain ⟨rfl, N11q, K11, p11_0, p11_1⟩ := hQ11
    have N12 := Fr.app N0 N11q
    have zzK11 : h5.size ≤ T11.heap.size := K11.1
    have oo13 : Old Z n0 T11.heap := oo7.keep K11 (allS (by omega : n0 ≤ b5) all0)
    have kt14 : Keep h0 T11.heap [] := kt8.trans K11 (allS (Or.inr (by omega : h0.size ≤ b5)) all0)
    refine own_by (T' := T11) (g' := (mkF m 122 #[.val (.int p0), .val (.int p1), .val (.int p2), .val (.int ((p2 &&& (2147483647 : Int32)) % (6 : Int32))), .val (.ref wN), .val (.int (0 : Int32)), .val (.int (-1 : Int32)), .unset, .unset] [(.ref b5)])) (fun _ kt_ => st11.trans kt_) ?_
    refine own_by (T' := T11) (g' := (mkF m 124 #[.val (.int p0), .val (.int p1), .val (.int p2), .val (.int ((p2 &&& (2147483647 : Int32)) % (6 : Int32))), .val (.ref wN), .val (.int (0 : Int32)), .val (.int (-1 : Int32)), .val (.ref b5), .unset] [])) (fun _ kt_ => XS.astore X11.here hx rfl (hb hby at_122) rfl rfl (l' := #[.val (.int p0), .val (.int p1), .val (.int p2), .val (.int ((p2 &&& (2147483647 : Int32)) % (6 : Int32))), .val (.ref wN), .val (.int (0 : Int32)), .val (.int (-1 : Int32)), .val (.ref b5), .unset]) rfl kt_) ?_
    refine own_by (T' := T11) (g' := (mkF m 126 #[.val (.int p0), .val (.int p1), .val (.int p2), .val (.int ((p2 &&& (2147483647 : Int32)) % (6 : Int32))), .val (.ref wN), .val (.int (0 : Int32)), .val (.int (-1 : Int32)), .val (.ref b5), .unset] [(.ref b5)])) (fun _ kt_ => XS.aload X11.here hx rfl (hb hby at_124) rfl rfl kt_) ?_
    refine own_by (T' := T11) (g' := (mkF m 128 #[.val (.int p0), .val (.int p1), .val (.int p2), .val (.int ((p2 &&& (2147483647 : Int32)) % (6 : Int32))), .val (.ref wN), .val (.int (0 : Int32)), .val (.int (-1 : Int32)), .val (.ref b5), .unset] [(.ref wN), (.ref b5)])) (fun _ kt_ => XS.aload X11.here hx rfl (hb hby at_126) rfl rfl kt_) ?_
    have f15 := GS.2.1.ext oo13.2
    have f16 := GS.2.2.1.ext oo13.2
    have f17 := GS.2.2.2.1.ext oo13.2
    have f19 : Exa Z T11.heap b5 "com/example/redoubt/redoubt/core/Cell" := (A5.keep K11)
    obtain ⟨cq18, kq18, q18a, q18b, q18c⟩ := isOf hZ rfl f19
    obtain ⟨_, _, ⟨T18, L18, k18, n18⟩, -, X18, ⟨Lc18, hQ18, l18, y18, z18⟩, st18⟩ := X11.virtualBack hx (y := (⟨"com/example/redoubt/redoubt/core/Cell", "step", "(Lcom/example/redoubt/redoubt/core/Direction;)Lcom/example/redoubt/redoubt/core/Cell;"⟩ : MethodName)) (z := (⟨"com/example/redoubt/redoubt/core/Cell", "step", "(Lcom/example/redoubt/redoubt/core/Direction;)Lcom/example/redoubt/redoubt/core/Cell;"⟩ : MethodName)) hown (mvT hZ (hw _ (List.mem_of_getElem? (i := 22) rfl))) (mvT hZ (hw _ (List.mem_of_getElem? (i := 23) rfl))) (notFace_of_selects (args := #[]) (mvT hZ (hw _ (List.mem_of_getElem? (i := 25) rfl)))) (mvT hZ (hw _ (List.mem_of_getElem? (i := 25) rfl))) (mvT hZ (hw _ (List.mem_of_getElem? (i := 24) rfl))) (by decide) (backOf (W := 0) (rmStep l Z a0 hw [] wN wNE wSE wS wSW wNW GS b5 wN p0 p1 (0 : Int32) (-1 : Int32) T11.heap n0 (by omega) oo13 p11_0 p11_1 f15 f16 f17) hZ (hw _ (List.mem_of_getElem? (i := 26) rfl)) (hw _ (List.mem_of_getElem? (i := 6) rfl)) (by decide) (by decide)) q18a q18c (g := (mkF m 128 #[.val (.int p0), .val (.int p1), .val (.int p2), .val (.int ((p2 &&& (2147483647 : Int32)) % (6 : Int32))), .val (.ref wN), .val (.int (0 : Int32)), .val (.int (-1 : Int32)), .val (.ref b5), .unset] [(.ref wN), (.ref b5)])) rfl (by rw [hml]; rfl) (Steps.refl _) (argsL := [(.ref wN)]) (rest := []) (lenOf own_pd_3 rfl) rfl (by show 2 * 0 + _ ≤ _; exact Nat.le_of_eq rfl) (hb hby at_128) (fun _ _ => ⟨rfl, rfl, (by decide : 1 + 1 ≤ _), (by decide : 2 + 2 ≤ _)⟩)
    dsimp only [Pt.U, Pt.locs, Pt.cells, Pt.slots] at X18 l18 y18 z18 st18 hQ18
    subst l18 y18 z18
    obtain ⟨b_20, rfl, N18q, K18, p18_0, p18_1, p18_2, p18_3⟩ := hQ18
    have N21 := Fr.app N12 N18q
    have gb_20 : T11.heap.size ≤ b_20 := p18_0
    have zzK18 : T11.heap.size ≤ T18.heap.size := K18.1
    have oo22 : Old Z n0 T18.heap := oo13.keep K18 all0
    have kt23 : Keep h0 T18.heap [] := kt14.trans K18 all0
    refine own_by (T' := T18) (g' := (mkF m 131 #[.val (.int p0), .val (.int p1), .val (.int p2), .val (.int ((p2 &&& (2147483647 : Int32)) % (6 : Int32))), .val (.ref wN), .val (.int (0 : Int32)), .val (.int (-1 : Int32)), .val (.ref b5), .unset] [(.ref b_20)])) (fun _ kt_ => st18.trans kt_) ?_
    refine own_by (T' := T18) (g' := (mkF m 133 #[.val (.int p0), .val (.int p1), .val (.int p2), .val (.int ((p2 &&& (2147483647 : Int32)) % (6 : Int32))), .val (.ref wN), .val (.int (0 : Int32)), .val (.int (-1 : Int32)), .val (.ref b5), .val (.ref b_20)] [])) (fun _ kt_ => XS.astore X18.here hx rfl (hb hby at_131) rfl rfl (l' := #[.val (.int p0), .val (.int p1), .val (.int p2), .val (.int ((p2 &&& (2147483647 : Int32)) % (6 : Int32))), .val (.ref wN), .val (.int (0 : Int32)), .val (.int (-1 : Int32)), .val (.ref b5), .val (.ref b_20)]) rfl kt_) ?_
    refine own_by (T' := T18) (g' := (mkF m 135 #[.val (.int p0), .val (.int p1), .val (.int p2), .val (.int ((p2 &&& (2147483647 : Int32)) % (6 : Int32))), .val (.ref wN), .val (.int (0 : Int32)), .val (.int (-1 : Int32)), .val (.ref b5), .val (.ref b_20)] [(.ref b_20)])) (fun _ kt_ => XS.aload X18.here hx rfl (hb hby at_133) rfl rfl kt_) ?_
    obtain ⟨cq24, kq24, q24a, q24b, q24c⟩ := isOf hZ rfl p18_1
    obtain ⟨_, _, ⟨T24, L24, k24, n24⟩, -, X24, ⟨Lc24, hQ24, l24, y24, z24⟩, st24⟩ := X18.virtualBack hx (y := (⟨"com/example/redoubt/redoubt/core/Cell", "q", "()I"⟩ : MethodName)) (z := (⟨"com/example/redoubt/redoubt/core/Cell", "q", "()I"⟩ : MethodName)) hown (mvT hZ (hw _ (List.mem_of_getElem? (i := 43) rfl))) (mvT hZ (hw _ (List.mem_of_getElem? (i := 44) rfl))) (notFace_of_selects (args := #[]) (mvT hZ (hw _ (List.mem_of_getElem? (i := 46) rfl)))) (mvT hZ (hw _ (List.mem_of_getElem? (i := 46) rfl))) (mvT hZ (hw _ (List.mem_of_getElem? (i := 45) rfl))) (by decide) (backOf (W := 0) (rmQ l Z a0 hw [] wN wNE wSE wS wSW wNW GS b_20 (p0 + (0 : Int32)) T18.heap n0 (by omega) oo22 p18_2) hZ (hw _ (List.mem_of_getElem? (i := 47) rfl)) (hw _ (List.mem_of_getElem? (i := 6) rfl)) (by decide) (by decide)) q24a q24c (g := (mkF m 135 #[.val (.int p0), .val (.int p1), .val (.int p2), .val (.int ((p2 &&& (2147483647 : Int32)) % (6 : Int32))), .val (.ref wN), .val (.int (0 : Int32)), .val (.int (-1 : Int32)), .val (.ref b5), .val (.ref b_20)] [(.ref b_20)])) rfl (by rw [hml]; rfl) (Steps.refl _) (argsL := []) (rest := []) (lenOf own_pd_1 rfl) rfl (by show 2 * 0 + _ ≤ _; exact Nat.le_of_eq rfl) (hb hby at_135) (fun _ _ => ⟨rfl, rfl, (by decide : 2 + 0 ≤ _), (by decide : 4 + 0 ≤ _)⟩)
    dsimp only [Pt.U, Pt.locs, Pt.cells, Pt.slots] at X24 l24 y24 z24 st24 hQ24
    subst l24 y24 z24
    obtain ⟨rfl, N24q, e24⟩ := hQ24
    have N25 := Fr.app N21 N24q
    refine own_by (T' := T24) (g' := (mkF m 138 #[.val (.int p0), .val (.int p1), .val (.int p2), .val (.int ((p2 &&& (2147483647 : Int32)) % (6 : Int32))), .val (.ref wN), .val (.int (0 : Int32)), .val (.int (-1 : Int32)), .val (.ref b5), .val (.ref b_20)] [(.int (p0 + (0 : Int32)))])) (fun _ kt_ => st24.trans kt_) ?_
    refine own_by (T' := T24) (g' := (mkF m 139 #[.val (.int p0), .val (.int p1), .val (.int p2), .val (.int ((p2 &&& (2147483647 : Int32)) % (6 : Int32))), .val (.ref wN), .val (.int (0 : Int32)), .val (.int (-1 : Int32)), .val (.ref b5), .val (.ref b_20)] [(.int p0), (.int (p0 + (0 : Int32)))])) (fun _ kt_ => XS.iloadN X24.here hx rfl (hb hby at_138) rfl kt_) ?_
    refine own_by (T' := T24) (g' := (mkF m 141 #[.val (.int p0), .val (.int p1), .val (.int p2), .val (.int ((p2 &&& (2147483647 : Int32)) % (6 : Int32))), .val (.ref wN), .val (.int (0 : Int32)), .val (.int (-1 : Int32)), .val (.ref b5), .val (.ref b_20)] [(.int (0 : Int32)), (.int p0), (.int (p0 + (0 : Int32)))])) (fun _ kt_ => XS.iload X24.here hx rfl (hb hby at_139) rfl kt_) ?_
    refine own_by (T' := T24) (g' := (mkF m 142 #[.val (.int p0), .val (.int p1), .val (.int p2), .val (.int ((p2 &&& (2147483647 : Int32)) % (6 : Int32))), .val (.ref wN), .val (.int (0 : Int32)), .val (.int (-1 : Int32)), .val (.ref b5), .val (.ref b_20)] [(.int (p0 + (0 : Int32))), (.int (p0 + (0 : Int32)))])) (fun _ kt_ => XS.iadd X24.here hx rfl (hb hby at_141) rfl kt_) ?_
    refine own_by (T' := T24) (g' := (mkF m 145 #[.val (.int p0), .val (.int p1), .val (.int p2), .val (.int ((p2 &&& (2147483647 : Int32)) % (6 : Int32))), .val (.ref wN), .val (.int (0 : Int32)), .val (.int (-1 : Int32)), .val (.ref b5), .val (.ref b_20)] [])) (fun _ kt_ => XS.icmpNo X24.here hx rfl (hb hby at_142) rfl (XT.ii_ne_f (rfl : (p0 + (0 : Int32)) = (p0 + (0 : Int32)))) kt_) ?_
    refine own_by (T' := T24) (g' := (mkF m 147 #[.val (.int p0), .val (.int p1), .val (.int p2), .val (.int ((p2 &&& (2147483647 : Int32)) % (6 : Int32))), .val (.ref wN), .val (.int (0 : Int32)), .val (.int (-1 : Int32)), .val (.ref b5), .val (.ref b_20)] [(.ref b_20)])) (fun _ kt_ => XS.aload X24.here hx rfl (hb hby at_145) rfl rfl kt_) ?_
    obtain ⟨cq26, kq26, q26a, q26b, q26c⟩ := isOf hZ e24 p18_1
    obtain ⟨_, _, ⟨T26, L26, k26, n26⟩, -, X26, ⟨Lc26, hQ26, l26, y26, z26⟩, st26⟩ := X24.virtualBack hx (y := (⟨"com/example/redoubt/redoubt/core/Cell", "r", "()I"⟩ : MethodName)) (z := (⟨"com/example/redoubt/redoubt/core/Cell", "r", "()I"⟩ : MethodName)) hown (mvT hZ (hw _ (List.mem_of_getElem? (i := 48) rfl))) (mvT hZ (hw _ (List.mem_of_getElem? (i := 49) rfl))) (notFace_of_selects (args := #[]) (mvT hZ (hw _ (List.mem_of_getElem? (i := 51) rfl)))) (mvT hZ (hw _ (List.mem_of_getElem? (i := 51) rfl))) (mvT hZ (hw _ (List.mem_of_getElem? (i := 50) rfl))) (by decide) (backOf (W := 0) (rmR l Z a0 hw [] wN wNE wSE wS wSW wNW GS b_20 (p1 + (-1 : Int32)) T18.heap n0 (by omega) oo22 p18_3) hZ (hw _ (List.mem_of_getElem? (i := 52) rfl)) (hw _ (List.mem_of_getElem? (i := 6) rfl)) (by decide) (by decide)) q26a q26c (g := (mkF m 147 #[.val (.int p0), .val (.int p1), .val (.int p2), .val (.int ((p2 &&& (2147483647 : Int32)) % (6 : Int32))), .val (.ref wN), .val (.int (0 : Int32)), .val (.int (-1 : Int32)), .val (.ref b5), .val (.ref b_20)] [(.ref b_20)])) rfl (by rw [hml]; rfl) (Steps.refl _) (argsL := []) (rest := []) (lenOf own_pd_1 rfl) rfl (by show 2 * 0 + _ ≤ _; exact Nat.le_of_eq rfl) (hb hby at_147) (fun _ _ => ⟨rfl, e24, (by decide : 2 + 0 ≤ _), (by decide : 4 + 0 ≤ _)⟩)
    dsimp only [Pt.U, Pt.locs, Pt.cells, Pt.slots] at X26 l26 y26 z26 st26 hQ26
    subst l26 y26 z26
    obtain ⟨rfl, N26q, e26⟩ := hQ26
    have N27 := Fr.app N25 N26q
    refine own_by (T' := T26) (g' := (mkF m 150 #[.val (.int p0), .val (.int p1), .val (.int p2), .val (.int ((p2 &&& (2147483647 : Int32)) % (6 : Int32))), .val (.ref wN), .val (.int (0 : Int32)), .val (.int (-1 : Int32)), .val (.ref b5), .val (.ref b_20)] [(.int (p1 + (-1 : Int32)))])) (fun _ kt_ => st26.trans kt_) ?_
    refine own_by (T' := T26) (g' := (mkF m 151 #[.val (.int p0), .val (.int p1), .val (.int p2), .val (.int ((p2 &&& (2147483647 : Int32)) % (6 : Int32))), .val (.ref wN), .val (.int (0 : Int32)), .val (.int (-1 : Int32)), .val (.ref b5), .val (.ref b_20)] [(.int p1), (.int (p1 + (-1 : Int32)))])) (fun _ kt_ => XS.iloadN X26.here hx rfl (hb hby at_150) rfl kt_) ?_
    refine own_by (T' := T26) (g' := (mkF m 153 #[.val (.int p0), .val (.int p1), .val (.int p2), .val (.int ((p2 &&& (2147483647 : Int32)) % (6 : Int32))), .val (.ref wN), .val (.int (0 : Int32)), .val (.int (-1 : Int32)), .val (.ref b5), .val (.ref b_20)] [(.int (-1 : Int32)), (.int p1), (.int (p1 + (-1 : Int32)))])) (fun _ kt_ => XS.iload X26.here hx rfl (hb hby at_151) rfl kt_) ?_
    refine own_by (T' := T26) (g' := (mkF m 154 #[.val (.int p0), .val (.int p1), .val (.int p2), .val (.int ((p2 &&& (2147483647 : Int32)) % (6 : Int32))), .val (.ref wN), .val (.int (0 : Int32)), .val (.int (-1 : Int32)), .val (.ref b5), .val (.ref b_20)] [(.int (p1 + (-1 : Int32))), (.int (p1 + (-1 : Int32)))])) (fun _ kt_ => XS.iadd X26.here hx rfl (hb hby at_153) rfl kt_) ?_
    refine own_by (T' := T26) (g' := (mkF m 157 #[.val (.int p0), .val (.int p1), .val (.int p2), .val (.int ((p2 &&& (2147483647 : Int32)) % (6 : Int32))), .val (.ref wN), .val (.int (0 : Int32)), .val (.int (-1 : Int32)), .val (.ref b5), .val (.ref b_20)] [])) (fun _ kt_ => XS.icmpNo X26.here hx rfl (hb hby at_154) rfl (XT.ii_ne_f (rfl : (p1 + (-1 : Int32)) = (p1 + (-1 : Int32)))) kt_) ?_
    refine own_by (T' := T26) (g' := (mkF m 159 #[.val (.int p0), .val (.int p1), .val (.int p2), .val (.int ((p2 &&& (2147483647 : Int32)) % (6 : Int32))), .val (.ref wN), .val (.int (0 : Int32)), .val (.int (-1 : Int32)), .val (.ref b5), .val (.ref b_20)] [(.ref b5)])) (fun _ kt_ => XS.aload X26.here hx rfl (hb hby at_157) rfl rfl kt_) ?_
    have f28 : Fld Z T18.heap b5 "com/example/redoubt/redoubt/core/Cell" "q" "I" (.int p0) := (p11_0.keep K18 nin0)
    have f30 : Exa Z T18.heap b5 "com/example/redoubt/redoubt/core/Cell" := (f19.keep K18)
    obtain ⟨cq29, kq29, q29a, q29b, q29c⟩ := isOf hZ e26 f30
    obtain ⟨_, _, ⟨T29, L29, k29, n29⟩, -, X29, ⟨Lc29, hQ29, l29, y29, z29⟩, st29⟩ := X26.virtualBack hx (y := (⟨"com/example/redoubt/redoubt/core/Cell", "q", "()I"⟩ : MethodName)) (z := (⟨"com/example/redoubt/redoubt/core/Cell", "q", "()I"⟩ : MethodName)) hown (mvT hZ (hw _ (List.mem_of_getElem? (i := 43) rfl))) (mvT hZ (hw _ (List.mem_of_getElem? (i := 44) rfl))) (notFace_of_selects (args := #[]) (mvT hZ (hw _ (List.mem_of_getElem? (i := 46) rfl)))) (mvT hZ (hw _ (List.mem_of_getElem? (i := 46) rfl))) (mvT hZ (hw _ (List.mem_of_getElem? (i := 45) rfl))) (by decide) (backOf (W := 0) (rmQ l Z a0 hw [] wN wNE wSE wS wSW wNW GS b5 p0 T18.heap n0 (by omega) oo22 f28) hZ (hw _ (List.mem_of_getElem? (i := 47) rfl)) (hw _ (List.mem_of_getElem? (i := 6) rfl)) (by decide) (by decide)) q29a q29c (g := (mkF m 159 #[.val (.int p0), .val (.int p1), .val (.int p2), .val (.int ((p2 &&& (2147483647 : Int32)) % (6 : Int32))), .val (.ref wN), .val (.int (0 : Int32)), .val (.int (-1 : Int32)), .val (.ref b5), .val (.ref b_20)] [(.ref b5)])) rfl (by rw [hml]; rfl) (Steps.refl _) (argsL := []) (rest := []) (lenOf own_pd_1 rfl) rfl (by show 2 * 0 + _ ≤ _; exact Nat.le_of_eq rfl) (hb hby at_159) (fun _ _ => ⟨rfl, e26, (by decide : 2 + 0 ≤ _), (by decide : 4 + 0 ≤ _)⟩)
    dsimp only [Pt.U, Pt.locs, Pt.cells, Pt.slots] at X29 l29 y29 z29 st29 hQ29
    subst l29 y29 z29
    obtain ⟨rfl, N29q, e29⟩ := hQ29
    have N31 := Fr.app N27 N29q
    refine own_by (T' := T29) (g' := (mkF m 162 #[.val (.int p0), .val (.int p1), .val (.int p2), .val (.int ((p2 &&& (2147483647 : Int32)) % (6 : Int32))), .val (.ref wN), .val (.int (0 : Int32)), .val (.int (-1 : Int32)), .val (.ref b5), .val (.ref b_20)] [(.int p0)])) (fun _ kt_ => st29.trans kt_) ?_
    refine own_by (T' := T29) (g' := (mkF m 163 #[.val (.int p0), .val (.int p1), .val (.int p2), .val (.int ((p2 &&& (2147483647 : Int32)) % (6 : Int32))), .val (.ref wN), .val (.int (0 : Int32)), .val (.int (-1 : Int32)), .val (.ref b5), .val (.ref b_20)] [(.int p0), (.int p0)])) (fun _ kt_ => XS.iloadN X29.here hx rfl (hb hby at_162) rfl kt_) ?_
    refine own_by (T' := T29) (g' := (mkF m 166 #[.val (.int p0), .val (.int p1), .val (.int p2), .val (.int ((p2 &&& (2147483647 : Int32)) % (6 : Int32))), .val (.ref wN), .val (.int (0 : Int32)), .val (.int (-1 : Int32)), .val (.ref b5), .val (.ref b_20)] [])) (fun _ kt_ => XS.icmpNo X29.here hx rfl (hb hby at_163) rfl (XT.ii_ne_f (rfl : p0 = p0)) kt_) ?_
    refine own_by (T' := T29) (g' := (mkF m 168 #[.val (.int p0), .val (.int p1), .val (.int p2), .val (.int ((p2 &&& (2147483647 : Int32)) % (6 : Int32))), .val (.ref wN), .val (.int (0 : Int32)), .val (.int (-1 : Int32)), .val (.ref b5), .val (.ref b_20)] [(.ref b5)])) (fun _ kt_ => XS.aload X29.here hx rfl (hb hby at_166) rfl rfl kt_) ?_
    have f32 : Fld Z T18.heap b5 "com/example/redoubt/redoubt/core/Cell" "r" "I" (.int p1) := (p11_1.keep K18 nin0)
    obtain ⟨cq33, kq33, q33a, q33b, q33c⟩ := isOf hZ e29 f30
    obtain ⟨_, _, ⟨T33, L33, k33, n33⟩, -, X33, ⟨Lc33, hQ33, l33, y33, z33⟩, st33⟩ := X29.virtualBack hx (y := (⟨"com/example/redoubt/redoubt/core/Cell", "r", "()I"⟩ : MethodName)) (z := (⟨"com/example/redoubt/redoubt/core/Cell", "r", "()I"⟩ : MethodName)) hown (mvT hZ (hw _ (List.mem_of_getElem? (i := 48) rfl))) (mvT hZ (hw _ (List.mem_of_getElem? (i := 49) rfl))) (notFace_of_selects (args := #[]) (mvT hZ (hw _ (List.mem_of_getElem? (i := 51) rfl)))) (mvT hZ (hw _ (List.mem_of_getElem? (i := 51) rfl))) (mvT hZ (hw _ (List.mem_of_getElem? (i := 50) rfl))) (by decide) (backOf (W := 0) (rmR l Z a0 hw [] wN wNE wSE wS wSW wNW GS b5 p1 T18.heap n0 (by omega) oo22 f32) hZ (hw _ (List.mem_of_getElem? (i := 52) rfl)) (hw _ (List.mem_of_getElem? (i := 6) rfl)) (by decide) (by decide)) q33a q33c (g := (mkF m 168 #[.val (.int p0), .val (.int p1), .val (.int p2), .val (.int ((p2 &&& (2147483647 : Int32)) % (6 : Int32))), .val (.ref wN), .val (.int (0 : Int32)), .val (.int (-1 : Int32)), .val (.ref b5), .val (.ref b_20)] [(.ref b5)])) rfl (by rw [hml]; rfl) (Steps.refl _) (argsL := []) (rest := []) (lenOf own_pd_1 rfl) rfl (by show 2 * 0 + _ ≤ _; exact Nat.le_of_eq rfl) (hb hby at_168) (fun _ _ => ⟨rfl, e29, (by decide : 2 + 0 ≤ _), (by decide : 4 + 0 ≤ _)⟩)
    dsimp only [Pt.U, Pt.locs, Pt.cells, Pt.slots] at X33 l33 y33 z33 st33 hQ33
    subst l33 y33 z33
    obtain ⟨rfl, N33q, e33⟩ := hQ33
    have N34 := Fr.app N31 N33q
    refine own_by (T' := T33) (g' := (mkF m 171 #[.val (.int p0), .val (.int p1), .val (.int p2), .val (.int ((p2 &&& (2147483647 : Int32)) % (6 : Int32))), .val (.ref wN), .val (.int (0 : Int32)), .val (.int (-1 : Int32)), .val (.ref b5), .val (.ref b_20)] [(.int p1)])) (fun _ kt_ => st33.trans kt_) ?_
    refine own_by (T' := T33) (g' := (mkF m 172 #[.val (.int p0), .val (.int p1), .val (.int p2), .val (.int ((p2 &&& (2147483647 : Int32)) % (6 : Int32))), .val (.ref wN), .val (.int (0 : Int32)), .val (.int (-1 : Int32)), .val (.ref b5), .val (.ref b_20)] [(.int p1), (.int p1)])) (fun _ kt_ => XS.iloadN X33.here hx rfl (hb hby at_171) rfl kt_) ?_
    refine own_by (T' := T33) (g' := (mkF m 175 #[.val (.int p0), .val (.int p1), .val (.int p2), .val (.int ((p2 &&& (2147483647 : Int32)) % (6 : Int32))), .val (.ref wN), .val (.int (0 : Int32)), .val (.int (-1 : Int32)), .val (.ref b5), .val (.ref b_20)] [])) (fun _ kt_ => XS.icmpNo X33.here hx rfl (hb hby at_172) rfl (XT.ii_ne_f (rfl : p1 = p1)) kt_) ?_
    refine own_by (T' := T33) (g' := (mkF m 176 #[.val (.int p0), .val (.int p1), .val (.int p2), .val (.int ((p2 &&& (2147483647 : Int32)) % (6 : Int32))), .val (.ref wN), .val (.int (0 : Int32)), .val (.int (-1 : Int32)), .val (.ref b5), .val (.ref b_20)] [(.int (1 : Int32))])) (fun _ kt_ => XS.iconst X33.here hx rfl (hb hby at_175) kt_) ?_
    refine own_by (T' := T33) (g' := (mkF m 180 #[.val (.int p0), .val (.int p1), .val (.int p2), .val (.int ((p2 &&& (2147483647 : Int32)) % (6 : Int32))), .val (.ref wN), .val (.int (0 : Int32)), .val (.int (-1 : Int32)), .val (.ref b5), .val (.ref b_20)] [(.int (1 : Int32))])) (fun _ kt_ => XS.goto X33.here hx rfl (pc0 := 176) (pc' := 180) rfl (hb hby at_176) (by decide) (by decide) kt_) ?_
    have hn35 : nar .boolean (1 : Int32) = (1 : Int32) := rfl
    obtain ⟨fs36, hr36, hrun36, hended36, hW36, hsame36⟩ := X33.leave (v := some (.int (nar .boolean (1 : Int32)))) (fun h => by rw [Bd.returns] at h; cases h)
    refine ⟨_, _, retN X33 hx (t := .boolean) Bd.returns (by simp) (hb hby at_180) hr36, hrun36, hended36, _, _, rfl, ?_, ⟨_, rfl⟩, hW36, hsame36.mono (by decide) (by decide)⟩
    show Q_rm0 Z wN wNE wSE wS wSW wNW p0 p1 p2 h0 n0 _ T33.heap _
    exact ⟨(congrArg (fun z => some (Value.int z)) hn35), N34⟩
  · refine own_by (T' := s₁) (g' := (mkF m 26 #[.val (.int p0), .val (.int p1), .val (.int p2), .val (.int ((p2 &&& (2147483647 : Int32)) % (6 : Int32))), .unset, .unset, .unset, .unset, .unset] [])) (fun _ kt_ => XS.ifYes X0.here hx rfl (pc0 := 9) (pc' := 26) rfl (hb hby at_9) rfl (XT.i0_ne_t hc2) (by decide) (by decide) kt_) ?_
    refine own_by (T' := s₁) (g' := (mkF m 27 #[.val (.int p0), .val (.int p1), .val (.int p2), .val (.int ((p2 &&& (2147483647 : Int32)) % (6 : Int32))), .unset, .unset, .unset, .unset, .unset] [(.int ((p2 &&& (2147483647 : Int32)) % (6 : Int32)))])) (fun _ kt_ => XS.iloadN X0.here hx rfl (hb hby at_26) rfl kt_) ?_
    refine own_by (T' := s₁) (g' := (mkF m 28 #[.val (.int p0), .val (.int p1), .val (.int p2), .val (.int ((p2 &&& (2147483647 : Int32)) % (6 : Int32))), .unset, .unset, .unset, .unset, .unset] [(.int (1 : Int32)), (.int ((p2 &&& (2147483647 : Int32)) % (6 : Int32)))])) (fun _ kt_ => XS.iconst X0.here hx rfl (hb hby at_27) kt_) ?_
    by_cases hc37 : ((p2 &&& (2147483647 : Int32)) % (6 : Int32)) = (1 : Int32)
    · refine own_by (T' := s₁) (g' := (mkF m 31 #[.val (.int p0), .val (.int p1), .val (.int p2), .val (.int ((p2 &&& (2147483647 : Int32)) % (6 : Int32))), .unset, .unset, .unset, .unset, .unset] [])) (fun _ kt_ => XS.icmpNo X0.here hx rfl (hb hby at_28) rfl (XT.ii_ne_f hc37) kt_) ?_
      have f38 := GS.2.2.2.2.1.ext O0.2
      obtain ⟨T39, X39, e39, st39⟩ := getS2 X0 hx hZ hown (host := "") (Or.inl (hw _ (List.mem_of_getElem? (i := 55) rfl))) Via.refl e0 f38 (g := (mkF m 31 #[.val (.int p0), .val (.int p1), .val (.int p2), .val (.int ((p2 &&& (2147483647 : Int32)) % (6 : Int32))), .unset, .unset, .unset, .unset, .unset] [])) rfl (hb hby at_31)
      refine own_by (T' := T39) (g' := (mkF m 34 #[.val (.int p0), .val (.int p1), .val (.int p2), .val (.int ((p2 &&& (2147483647 : Int32)) % (6 : Int32))), .unset, .unset, .unset, .unset, .unset] [(.ref wNE)])) st39 ?_
      refine own_by (T' := T39) (g' := (mkF m 36 #[.val (.int p0), .val (.int p1), .val (.int p2), .val (.int ((p2 &&& (2147483647 : Int32)) % (6 : Int32))), .val (.ref wNE), .unset, .unset, .unset, .unset] [])) (fun _ kt_ => XS.astore X39.here hx rfl (hb hby at_34) rfl rfl (l' := #[.val (.int p0), .val (.int p1), .val (.int p2), .val (.int ((p2 &&& (2147483647 : Int32)) % (6 : Int32))), .val (.ref wNE), .unset, .unset, .unset, .unset]) rfl kt_) ?_
      refine own_by (T' := T39) (g' := (mkF m 37 #[.val (.int p0), .val (.int p1), .val (.int p2), .val (.int ((p2 &&& (2147483647 : Int32)) % (6 : Int32))), .val (.ref wNE), .unset, .unset, .unset, .unset] [(.int (1 : Int32))])) (fun _ kt_ => XS.iconst X39.here hx rfl (hb hby at_36) kt_) ?_
      refine own_by (T' := T39) (g' := (mkF m 39 #[.val (.int p0), .val (.int p1), .val (.int p2), .val (.int ((p2 &&& (2147483647 : Int32)) % (6 : Int32))), .val (.ref wNE), .val (.int (1 : Int32)), .unset, .unset, .unset] [])) (fun _ kt_ => XS.istore X39.here hx rfl (hb hby at_37) rfl (l' := #[.val (.int p0), .val (.int p1), .val (.int p2), .val (.int ((p2 &&& (2147483647 : Int32)) % (6 : Int32))), .val (.ref wNE), .val (.int (1 : Int32)), .unset, .unset, .unset]) rfl kt_) ?_
      refine own_by (T' := T39) (g' := (mkF m 40 #[.val (.int p0), .val (.int p1), .val (.int p2), .val (.int ((p2 &&& (2147483647 : Int32)) % (6 : Int32))), .val (.ref wNE), .val (.int (1 : Int32)), .unset, .unset, .unset] [(.int (-1 : Int32))])) (fun _ kt_ => XS.iconst X39.here hx rfl (hb hby at_39) kt_) ?_
      refine own_by (T' := T39) (g' := (mkF m 42 #[.val (.int p0), .val (.int p1), .val (.int p2), .val (.int ((p2 &&& (2147483647 : Int32)) % (6 : Int32))), .val (.ref wNE), .val (.int (1 : Int32)), .val (.int (-1 : Int32)), .unset, .unset] [])) (fun _ kt_ => XS.istore X39.here hx rfl (hb hby at_40) rfl (l' := #[.val (.int p0), .val (.int p1), .val (.int p2), .val (.int ((p2 &&& (2147483647 : Int32)) % (6 : Int32))), .val (.ref wNE), .val (.int (1 : Int32)), .val (.int (-1 : Int32)), .unset, .unset]) rfl kt_) ?_
      refine own_by (T' := T39) (g' := (mkF m 113 #[.val (.int p0), .val (.int p1), .val (.int p2), .val (.int ((p2 &&& (2147483647 : Int32)) % (6 : Int32))), .val (.ref wNE), .val (.int (1 : Int32)), .val (.int (-1 : Int32)), .unset, .unset] [])) (fun _ kt_ => XS.goto X39.here hx rfl (pc0 := 42) (pc' := 113) rfl (hb hby at_42) (by decide) (by decide) kt_) ?_
      obtain ⟨T40, h40, X40, e40, E40, A40, D40, -, st40⟩ := newO X39 hx hZ hown (hw _ (List.mem_of_getElem? (i := 4) rfl)) (hw _ (List.mem_of_getElem? (i := 5) rfl)) (hw _ (List.mem_of_getElem? (i := 6) rfl)) e39 (g := (mkF m 113 #[.val (.int p0), .val (.int p1), .val (.int p2), .val (.int ((p2 &&& (2147483647 : Int32)) % (6 : Int32))), .val (.ref wNE), .val (.int (1 : Int32)), .val (.int (-1 : Int32)), .unset, .unset] [])) rfl (hb hby at_113) (by decide) (by decide)
      obtain ⟨b40, g40⟩ : ∃ z, z = h0.size := ⟨_, rfl⟩
      rw [← g40] at A40 D40 st40
      have K41 : Keep h0 h40 [] := own_kext E40
      have zzK41 : h0.size ≤ h40.size := K41.1
      have oo42 : Old Z n0 h40 := O0.keep K41 all0
      have kt43 : Keep h0 h40 [] := KT0.trans K41 all0
      have lab40 := A40.lt
      have f44 : Fld Z h40 b40 "com/example/redoubt/redoubt/core/Cell" "q" "I" (.int (0 : Int32)) := D40 (Or.inr (hw _ (List.mem_of_getElem? (i := 19) rfl))) (ty := .int) (by decide)
      have f45 : Fld Z h40 b40 "com/example/redoubt/redoubt/core/Cell" "r" "I" (.int (0 : Int32)) := D40 (Or.inr (hw _ (List.mem_of_getElem? (i := 21) rfl))) (ty := .int) (by decide)
      refine own_by (T' := T40) (g' := (mkF m 116 #[.val (.int p0), .val (.int p1), .val (.int p2), .val (.int ((p2 &&& (2147483647 : Int32)) % (6 : Int32))), .val (.ref wNE), .val (.int (1 : Int32)), .val (.int (-1 : Int32)), .unset, .unset] [(.ref b40)])) st40 ?_
      refine own_by (T' := T40) (g' := (mkF m 117 #[.val (.int p0), .val (.int p1), .val (.int p2), .val (.int ((p2 &&& (2147483647 : Int32)) % (6 : Int32))), .val (.ref wNE), .val (.int (1 : Int32)), .val (.int (-1 : Int32)), .unset, .unset] [(.ref b40), (.ref b40)])) (fun _ kt_ => XS.dup X40.here hx rfl (hb hby at_116) rfl rfl kt_) ?_
      refine own_by (T' := T40) (g' := (mkF m 118 #[.val (.int p0), .val (.int p1), .val (.int p2), .val (.int ((p2 &&& (2147483647 : Int32)) % (6 : Int32))), .val (.ref wNE), .val (.int (1 : Int32)), .val (.int (-1 : Int32)), .unset, .unset] [(.int p0), (.ref b40), (.ref b40)])) (fun _ kt_ => XS.iloadN X40.here hx rfl (hb hby at_117) rfl kt_) ?_
      refine own_by (T' := T40) (g' := (mkF m 119 #[.val (.int p0), .val (.int p1), .val (.int p2), .val (.int ((p2 &&& (2147483647 : Int32)) % (6 : Int32))), .val (.ref wNE), .val (.int (1 : Int32)), .val (.int (-1 : Int32)), .unset, .unset] [(.int p1), (.int p0), (.ref b40), (.ref b40)])) (fun _ kt_ => XS.iloadN X40.here hx rfl (hb hby at_118) rfl kt_) ?_
      obtain ⟨_, _, ⟨T46, L46, k46, n46⟩, -, X46, ⟨Lc46, hQ46, l46, y46, z46⟩, st46⟩ := X40.specialBack hx (y := (⟨"com/example/redoubt/redoubt/core/Cell", "<init>", "(II)V"⟩ : MethodName)) rfl hown (mvT hZ (hw _ (List.mem_of_getElem? (i := 7) rfl))) (mvT hZ (hw _ (List.mem_of_getElem? (i := 8) rfl))) (mvT hZ (hw _ (List.mem_of_getElem? (i := 9) rfl))) (by decide) (backOf (W := 1) (rmIni l Z a0 hw [] wN wNE wSE wS wSW wNW GS b40 p0 p1 h40 n0 (by omega) oo42 A40 (by omega) f44 f45) hZ (hw _ (List.mem_of_getElem? (i := 9) rfl)) (hw _ (List.mem_of_getElem? (i := 6) rfl)) (by decide) (by decide)) (g := (mkF m 119 #[.val (.int p0), .val (.int p1), .val (.int p2), .val (.int ((p2 &&& (2147483647 : Int32)) % (6 : Int32))), .val (.ref wNE), .val (.int (1 : Int32)), .val (.int (-1 : Int32)), .unset, .unset] [(.int p1), (.int p0), (.ref b40), (.ref b40)])) rfl (by rw [hml]; rfl) (Steps.refl _) (a := b40) (argsL := [(.int p0), (.int p1)]) (rest := [(.ref b40)]) (lenOf own_pd_2 rfl) rfl (by show 2 * 0 + _ ≤ _; exact Nat.le_of_eq rfl) (hb hby at_119) (fun _ _ => ⟨rfl, e40, (by decide : 1 + 0 ≤ _), (by decide : 2 + 0 ≤ _)⟩)
      dsimp only [Pt.U, Pt.locs, Pt.cells, Pt.slots] at X46 l46 y46 z46 st46 hQ46
      subst l46 y46 z46
      obtain ⟨rfl, N46q, K46, p46_0, p46_1⟩ := hQ46
      have N47 := Fr.app N0 N46q
      have zzK46 : h40.size ≤ T46.heap.size := K46.1
      have oo48 : Old Z n0 T46.heap := oo42.keep K46 (allS (by omega : n0 ≤ b40) all0)
      have kt49 : Keep h0 T46.heap [] := kt43.trans K46 (allS (Or.inr (by omega : h0.size ≤ b40)) all0)
      refine own_by (T' := T46) (g' := (mkF m 122 #[.val (.int p0), .val (.int p1), .val (.int p2), .val (.int ((p2 &&& (2147483647 : Int32)) % (6 : Int32))), .val (.ref wNE), .val (.int (1 : Int32)), .val (.int (-1 : Int32)), .unset, .unset] [(.ref b40)])) (fun _ kt_ => st46.trans kt_) ?_
      refine own_by (T' := T46) (g' := (mkF m 124 #[.val (.int p0), .val (.int p1), .val (.int p2), .val (.int ((p2 &&& (2147483647 : Int32)) % (6 : Int32))), .val (.ref wNE), .val (.int (1 : Int32)), .val (.int (-1 : Int32)), .val (.ref b40), .unset] [])) (fun _ kt_ => XS.astore X46.here hx rfl (hb hby at_122) rfl rfl (l' := #[.val (.int p0), .val (.int p1), .val (.int p2), .val (.int ((p2 &&& (2147483647 : Int32)) % (6 : Int32))), .val (.ref wNE), .val (.int (1 : Int32)), .val (.int (-1 : Int32)), .val (.ref b40), .unset]) rfl kt_) ?_
      refine own_by (T' := T46) (g' := (mkF m 126 #[.val (.int p0), .val (.int p1), .val (.int p2), .val (.int ((p2 &&& (2147483647 : Int32)) % (6 : Int32))), .val (.ref wNE), .val (.int (1 : Int32)), .val (.int (-1 : Int32)), .val (.ref b40), .unset] [(.ref b40)])) (fun _ kt_ => XS.aload X46.here hx rfl (hb hby at_124) rfl rfl kt_) ?_
      refine own_by (T' := T46) (g' := (mkF m 128 #[.val (.int p0), .val (.int p1), .val (.int p2), .val (.int ((p2 &&& (2147483647 : Int32)) % (6 : Int32))), .val (.ref wNE), .val (.int (1 : Int32)), .val (.int (-1 : Int32)), .val (.ref b40), .unset] [(.ref wNE), (.ref b40)])) (fun _ kt_ => XS.aload X46.here hx rfl (hb hby at_126) rfl rfl kt_) ?_
      have f50 := GS.2.2.2.2.2.1.ext oo48.2
      have f51 := GS.2.2.2.2.2.2.1.ext oo48.2
      have f52 := GS.2.2.2.2.2.2.2.1.ext oo48.2
      have f54 : Exa Z T46.heap b40 "com/example/redoubt/redoubt/core/Cell" := (A40.keep K46)
      obtain ⟨cq53, kq53, q53a, q53b, q53c⟩ := isOf hZ rfl f54
      obtain ⟨_, _, ⟨T53, L53, k53, n53⟩, -, X53, ⟨Lc53, hQ53, l53, y53, z53⟩, st53⟩ := X46.virtualBack hx (y := (⟨"com/example/redoubt/redoubt/core/Cell", "step", "(Lcom/example/redoubt/redoubt/core/Direction;)Lcom/example/redoubt/redoubt/core/Cell;"⟩ : MethodName)) (z := (⟨"com/example/redoubt/redoubt/core/Cell", "step", "(Lcom/example/redoubt/redoubt/core/Direction;)Lcom/example/redoubt/redoubt/core/Cell;"⟩ : MethodName)) hown (mvT hZ (hw _ (List.mem_of_getElem? (i := 22) rfl))) (mvT hZ (hw _ (List.mem_of_getElem? (i := 23) rfl))) (notFace_of_selects (args := #[]) (mvT hZ (hw _ (List.mem_of_getElem? (i := 25) rfl)))) (mvT hZ (hw _ (List.mem_of_getElem? (i := 25) rfl))) (mvT hZ (hw _ (List.mem_of_getElem? (i := 24) rfl))) (by decide) (backOf (W := 0) (rmStep l Z a0 hw [] wN wNE wSE wS wSW wNW GS b40 wNE p0 p1 (1 : Int32) (-1 : Int32) T46.heap n0 (by omega) oo48 p46_0 p46_1 f50 f51 f52) hZ (hw _ (List.mem_of_getElem? (i := 26) rfl)) (hw _ (List.mem_of_getElem? (i := 6) rfl)) (by decide) (by decide)) q53a q53c (g := (mkF m 128 #[.val (.int p0), .val (.int p1), .val (.int p2), .val (.int ((p2 &&& (2147483647 : Int32)) % (6 : Int32))), .val (.ref wNE), .val (.int (1 : Int32)), .val (.int (-1 : Int32)), .val (.ref b40), .unset] [(.ref wNE), (.ref b40)])) rfl (by rw [hml]; rfl) (Steps.refl _) (argsL := [(.ref wNE)]) (rest := []) (lenOf own_pd_3 rfl) rfl (by show 2 * 0 + _ ≤ _; exact Nat.le_of_eq rfl) (hb hby at_128) (fun _ _ => ⟨rfl, rfl, (by decide : 1 + 1 ≤ _), (by decide : 2 + 2 ≤ _)⟩)
      dsimp only [Pt.U, Pt.locs, Pt.cells, Pt.slots] at X53 l53 y53 z53 st53 hQ53
      subst l53 y53 z53
      obtain ⟨b_55, rfl, N53q, K53, p53_0, p53_1, p53_2, p53_3⟩ := hQ53
      have N56 := Fr.app N47 N53q
      have gb_55 : T46.heap.size ≤ b_55 := p53_0
      have zzK53 : T46.heap.size ≤ T53.heap.size := K53.1
      have oo57 : Old Z n0 T53.heap := oo48.keep K53 all0
      have kt58 : Keep h0 T53.heap [] := kt49.trans K53 all0
      refine own_by (T' := T53) (g' := (mkF m 131 #[.val (.int p0), .val (.int p1), .val (.int p2), .val (.int ((p2 &&& (2147483647 : Int32)) % (6 : Int32))), .val (.ref wNE), .val (.int (1 : Int32)), .val (.int (-1 : Int32)), .val (.ref b40), .unset] [(.ref b_55)])) (fun _ kt_ => st53.trans kt_) ?_
      refine own_by (T' := T53) (g' := (mkF m 133 #[.val (.int p0), .val (.int p1), .val (.int p2), .val (.int ((p2 &&& (2147483647 : Int32)) % (6 : Int32))), .val (.ref wNE), .val (.int (1 : Int32)), .val (.int (-1 : Int32)), .val (.ref b40), .val (.ref b_55)] [])) (fun _ kt_ => XS.astore X53.here hx rfl (hb hby at_131) rfl rfl (l' := #[.val (.int p0), .val (.int p1), .val (.int p2), .val (.int ((p2 &&& (2147483647 : Int32)) % (6 : Int32))), .val (.ref wNE), .val (.int (1 : Int32)), .val (.int (-1 : Int32)), .val (.ref b40), .val (.ref b_55)]) rfl kt_) ?_
      refine own_by (T' := T53) (g' := (mkF m 135 #[.val (.int p0), .val (.int p1), .val (.int p2), .val (.int ((p2 &&& (2147483647 : Int32)) % (6 : Int32))), .val (.ref wNE), .val (.int (1 : Int32)), .val (.int (-1 : Int32)), .val (.ref b40), .val (.ref b_55)] [(.ref b_55)])) (fun _ kt_ => XS.aload X53.here hx rfl (hb hby at_133) rfl rfl kt_) ?_
      obtain ⟨cq59, kq59, q59a, q59b, q59c⟩ := isOf hZ rfl p53_1
      obtain ⟨_, _, ⟨T59, L59, k59, n59⟩, -, X59, ⟨Lc59, hQ59, l59, y59, z59⟩, st59⟩ := X53.virtualBack hx (y := (⟨"com/example/redoubt/redoubt/core/Cell", "q", "()I"⟩ : MethodName)) (z := (⟨"com/example/redoubt/redoubt/core/Cell", "q", "()I"⟩ : MethodName)) hown (mvT hZ (hw _ (List.mem_of_getElem? (i := 43) rfl))) (mvT hZ (hw _ (List.mem_of_getElem? (i := 44) rfl))) (notFace_of_selects (args := #[]) (mvT hZ (hw _ (List.mem_of_getElem? (i := 46) rfl)))) (mvT hZ (hw _ (List.mem_of_getElem? (i := 46) rfl))) (mvT hZ (hw _ (List.mem_of_getElem? (i := 45) rfl))) (by decide) (backOf (W := 0) (rmQ l Z a0 hw [] wN wNE wSE wS wSW wNW GS b_55 (p0 + (1 : Int32)) T53.heap n0 (by omega) oo57 p53_2) hZ (hw _ (List.mem_of_getElem? (i := 47) rfl)) (hw _ (List.mem_of_getElem? (i := 6) rfl)) (by decide) (by decide)) q59a q59c (g := (mkF m 135 #[.val (.int p0), .val (.int p1), .val (.int p2), .val (.int ((p2 &&& (2147483647 : Int32)) % (6 : Int32))), .val (.ref wNE), .val (.int (1 : Int32)), .val (.int (-1 : Int32)), .val (.ref b40), .val (.ref b_55)] [(.ref b_55)])) rfl (by rw [hml]; rfl) (Steps.refl _) (argsL := []) (rest := []) (lenOf own_pd_1 rfl) rfl (by show 2 * 0 + _ ≤ _; exact Nat.le_of_eq rfl) (hb hby at_135) (fun _ _ => ⟨rfl, rfl, (by decide : 2 + 0 ≤ _), (by decide : 4 + 0 ≤ _)⟩)
      dsimp only [Pt.U, Pt.locs, Pt.cells, Pt.slots] at X59 l59 y59 z59 st59 hQ59
      subst l59 y59 z59
      obtain ⟨rfl, N59q, e59⟩ := hQ59
      have N60 := Fr.app N56 N59q
      refine own_by (T' := T59) (g' := (mkF m 138 #[.val (.int p0), .val (.int p1), .val (.int p2), .val (.int ((p2 &&& (2147483647 : Int32)) % (6 : Int32))), .val (.ref wNE), .val (.int (1 : Int32)), .val (.int (-1 : Int32)), .val (.ref b40), .val (.ref b_55)] [(.int (p0 + (1 : Int32)))])) (fun _ kt_ => st59.trans kt_) ?_
      refine own_by (T' := T59) (g' := (mkF m 139 #[.val (.int p0), .val (.int p1), .val (.int p2), .val (.int ((p2 &&& (2147483647 : Int32)) % (6 : Int32))), .val (.ref wNE), .val (.int (1 : Int32)), .val (.int (-1 : Int32)), .val (.ref b40), .val (.ref b_55)] [(.int p0), (.int (p0 + (1 : Int32)))])) (fun _ kt_ => XS.iloadN X59.here hx rfl (hb hby at_138) rfl kt_) ?_
      refine own_by (T' := T59) (g' := (mkF m 141 #[.val (.int p0), .val (.int p1), .val (.int p2), .val (.int ((p2 &&& (2147483647 : Int32)) % (6 : Int32))), .val (.ref wNE), .val (.int (1 : Int32)), .val (.int (-1 : Int32)), .val (.ref b40), .val (.ref b_55)] [(.int (1 : Int32)), (.int p0), (.int (p0 + (1 : Int32)))])) (fun _ kt_ => XS.iload X59.here hx rfl (hb hby at_139) rfl kt_) ?_
      refine own_by (T' := T59) (g' := (mkF m 142 #[.val (.int p0), .val (.int p1), .val (.int p2), .val (.int ((p2 &&& (2147483647 : Int32)) % (6 : Int32))), .val (.ref wNE), .val (.int (1 : Int32)), .val (.int (-1 : Int32)), .val (.ref b40), .val (.ref b_55)] [(.int (p0 + (1 : Int32))), (.int (p0 + (1 : Int32)))])) (fun _ kt_ => XS.iadd X59.here hx rfl (hb hby at_141) rfl kt_) ?_
      refine own_by (T' := T59) (g' := (mkF m 145 #[.val (.int p0), .val (.int p1), .val (.int p2), .val (.int ((p2 &&& (2147483647 : Int32)) % (6 : Int32))), .val (.ref wNE), .val (.int (1 : Int32)), .val (.int (-1 : Int32)), .val (.ref b40), .val (.ref b_55)] [])) (fun _ kt_ => XS.icmpNo X59.here hx rfl (hb hby at_142) rfl (XT.ii_ne_f (rfl : (p0 + (1 : Int32)) = (p0 + (1 : Int32)))) kt_) ?_
      refine own_by (T' := T59) (g' := (mkF m 147 #[.val (.int p0), .val (.int p1), .val (.int p2), .val (.int ((p2 &&& (2147483647 : Int32)) % (6 : Int32))), .val (.ref wNE), .val (.int (1 : Int32)), .val (.int (-1 : Int32)), .val (.ref b40), .val (.ref b_55)] [(.ref b_55)])) (fun _ kt_ => XS.aload X59.here hx rfl (hb hby at_145) rfl rfl kt_) ?_
      obtain ⟨cq61, kq61, q61a, q61b, q61c⟩ := isOf hZ e59 p53_1
      obtain ⟨_, _, ⟨T61, L61, k61, n61⟩, -, X61, ⟨Lc61, hQ61, l61, y61, z61⟩, st61⟩ := X59.virtualBack hx (y := (⟨"com/example/redoubt/redoubt/core/Cell", "r", "()I"⟩ : MethodName)) (z := (⟨"com/example/redoubt/redoubt/core/Cell", "r", "()I"⟩ : MethodName)) hown (mvT hZ (hw _ (List.mem_of_getElem? (i := 48) rfl))) (mvT hZ (hw _ (List.mem_of_getElem? (i := 49) rfl))) (notFace_of_selects (args := #[]) (mvT hZ (hw _ (List.mem_of_getElem? (i := 51) rfl)))) (mvT hZ (hw _ (List.mem_of_getElem? (i := 51) rfl))) (mvT hZ (hw _ (List.mem_of_getElem? (i := 50) rfl))) (by decide) (backOf (W := 0) (rmR l Z a0 hw [] wN wNE wSE wS wSW wNW GS b_55 (p1 + (-1 : Int32)) T53.heap n0 (by omega) oo57 p53_3) hZ (hw _ (List.mem_of_getElem? (i := 52) rfl)) (hw _ (List.mem_of_getElem? (i := 6) rfl)) (by decide) (by decide)) q61a q61c (g := (mkF m 147 #[.val (.int p0), .val (.int p1), .val (.int p2), .val (.int ((p2 &&& (2147483647 : Int32)) % (6 : Int32))), .val (.ref wNE), .val (.int (1 : Int32)), .val (.int (-1 : Int32)), .val (.ref b40), .val (.ref b_55)] [(.ref b_55)])) rfl (by rw [hml]; rfl) (Steps.refl _) (argsL := []) (rest := []) (lenOf own_pd_1 rfl) rfl (by show 2 * 0 + _ ≤ _; exact Nat.le_of_eq rfl) (hb hby at_147) (fun _ _ => ⟨rfl, e59, (by decide : 2 + 0 ≤ _), (by decide : 4 + 0 ≤ _)⟩)
      dsimp only [Pt.U, Pt.locs, Pt.cells, Pt.slots] at X61 l61 y61 z61 st61 hQ61
      subst l61 y61 z61
      obtain ⟨rfl, N61q, e61⟩ := hQ61
      have N62 := Fr.app N60 N61q
      refine own_by (T' := T61) (g' := (mkF m 150 #[.val (.int p0), .val (.int p1), .val (.int p2), .val (.int ((p2 &&& (2147483647 : Int32)) % (6 : Int32))), .val (.ref wNE), .val (.int (1 : Int32)), .val (.int (-1 : Int32)), .val (.ref b40), .val (.ref b_55)] [(.int (p1 + (-1 : Int32)))])) (fun _ kt_ => st61.trans kt_) ?_
      refine own_by (T' := T61) (g' := (mkF m 151 #[.val (.int p0), .val (.int p1), .val (.int p2), .val (.int ((p2 &&& (2147483647 : Int32)) % (6 : Int32))), .val (.ref wNE), .val (.int (1 : Int32)), .val (.int (-1 : Int32)), .val (.ref b40), .val (.ref b_55)] [(.int p1), (.int (p1 + (-1 : Int32)))])) (fun _ kt_ => XS.iloadN X61.here hx rfl (hb hby at_150) rfl kt_) ?_
      refine own_by (T' := T61) (g' := (mkF m 153 #[.val (.int p0), .val (.int p1), .val (.int p2), .val (.int ((p2 &&& (2147483647 : Int32)) % (6 : Int32))), .val (.ref wNE), .val (.int (1 : Int32)), .val (.int (-1 : Int32)), .val (.ref b40), .val (.ref b_55)] [(.int (-1 : Int32)), (.int p1), (.int (p1 + (-1 : Int32)))])) (fun _ kt_ => XS.iload X61.here hx rfl (hb hby at_151) rfl kt_) ?_
      refine own_by (T' := T61) (g' := (mkF m 154 #[.val (.int p0), .val (.int p1), .val (.int p2), .val (.int ((p2 &&& (2147483647 : Int32)) % (6 : Int32))), .val (.ref wNE), .val (.int (1 : Int32)), .val (.int (-1 : Int32)), .val (.ref b40), .val (.ref b_55)] [(.int (p1 + (-1 : Int32))), (.int (p1 + (-1 : Int32)))])) (fun _ kt_ => XS.iadd X61.here hx rfl (hb hby at_153) rfl kt_) ?_
      refine own_by (T' := T61) (g' := (mkF m 157 #[.val (.int p0), .val (.int p1), .val (.int p2), .val (.int ((p2 &&& (2147483647 : Int32)) % (6 : Int32))), .val (.ref wNE), .val (.int (1 : Int32)), .val (.int (-1 : Int32)), .val (.ref b40), .val (.ref b_55)] [])) (fun _ kt_ => XS.icmpNo X61.here hx rfl (hb hby at_154) rfl (XT.ii_ne_f (rfl : (p1 + (-1 : Int32)) = (p1 + (-1 : Int32)))) kt_) ?_
      refine own_by (T' := T61) (g' := (mkF m 159 #[.val (.int p0), .val (.int p1), .val (.int p2), .val (.int ((p2 &&& (2147483647 : Int32)) % (6 : Int32))), .val (.ref wNE), .val (.int (1 : Int32)), .val (.int (-1 : Int32)), .val (.ref b40), .val (.ref b_55)] [(.ref b40)])) (fun _ kt_ => XS.aload X61.here hx rfl (hb hby at_157) rfl rfl kt_) ?_
      have f63 : Fld Z T53.heap b40 "com/example/redoubt/redoubt/core/Cell" "q" "I" (.int p0) := (p46_0.keep K53 nin0)
      have f65 : Exa Z T53.heap b40 "com/example/redoubt/redoubt/core/Cell" := (f54.keep K53)
      obtain ⟨cq64, kq64, q64a, q64b, q64c⟩ := isOf hZ e61 f65
      obtain ⟨_, _, ⟨T64, L64, k64, n64⟩, -, X64, ⟨Lc64, hQ64, l64, y64, z64⟩, st64⟩ := X61.virtualBack hx (y := (⟨"com/example/redoubt/redoubt/core/Cell", "q", "()I"⟩ : MethodName)) (z := (⟨"com/example/redoubt/redoubt/core/Cell", "q", "()I"⟩ : MethodName)) hown (mvT hZ (hw _ (List.mem_of_getElem? (i := 43) rfl))) (mvT hZ (hw _ (List.mem_of_getElem? (i := 44) rfl))) (notFace_of_selects (args := #[]) (mvT hZ (hw _ (List.mem_of_getElem? (i := 46) rfl)))) (mvT hZ (hw _ (List.mem_of_getElem? (i := 46) rfl))) (mvT hZ (hw _ (List.mem_of_getElem? (i := 45) rfl))) (by decide) (backOf (W := 0) (rmQ l Z a0 hw [] wN wNE wSE wS wSW wNW GS b40 p0 T53.heap n0 (by omega) oo57 f63) hZ (hw _ (List.mem_of_getElem? (i := 47) rfl)) (hw _ (List.mem_of_getElem? (i := 6) rfl)) (by decide) (by decide)) q64a q64c (g := (mkF m 159 #[.val (.int p0), .val (.int p1), .val (.int p2), .val (.int ((p2 &&& (2147483647 : Int32)) % (6 : Int32))), .val (.ref wNE), .val (.int (1 : Int32)), .val (.int (-1 : Int32)), .val (.ref b40), .val (.ref b_55)] [(.ref b40)])) rfl (by rw [hml]; rfl) (Steps.refl _) (argsL := []) (rest := []) (lenOf own_pd_1 rfl) rfl (by show 2 * 0 + _ ≤ _; exact Nat.le_of_eq rfl) (hb hby at_159) (fun _ _ => ⟨rfl, e61, (by decide : 2 + 0 ≤ _), (by decide : 4 + 0 ≤ _)⟩)
      dsimp only [Pt.U, Pt.locs, Pt.cells, Pt.slots] at X64 l64 y64 z64 st64 hQ64
      subst l64 y64 z64
      obtain ⟨rfl, N64q, e64⟩ := hQ64
      have N66 := Fr.app N62 N64q
      refine own_by (T' := T64) (g' := (mkF m 162 #[.val (.int p0), .val (.int p1), .val (.int p2), .val (.int ((p2 &&& (2147483647 : Int32)) % (6 : Int32))), .val (.ref wNE), .val (.int (1 : Int32)), .val (.int (-1 : Int32)), .val (.ref b40), .val (.ref b_55)] [(.int p0)])) (fun _ kt_ => st64.trans kt_) ?_
      refine own_by (T' := T64) (g' := (mkF m 163 #[.val (.int p0), .val (.int p1), .val (.int p2), .val (.int ((p2 &&& (2147483647 : Int32)) % (6 : Int32))), .val (.ref wNE), .val (.int (1 : Int32)), .val (.int (-1 : Int32)), .val (.ref b40), .val (.ref b_55)] [(.int p0), (.int p0)])) (fun _ kt_ => XS.iloadN X64.here hx rfl (hb hby at_162) rfl kt_) ?_
      refine own_by (T' := T64) (g' := (mkF m 166 #[.val (.int p0), .val (.int p1), .val (.int p2), .val (.int ((p2 &&& (2147483647 : Int32)) % (6 : Int32))), .val (.ref wNE), .val (.int (1 : Int32)), .val (.int (-1 : Int32)), .val (.ref b40), .val (.ref b_55)] [])) (fun _ kt_ => XS.icmpNo X64.here hx rfl (hb hby at_163) rfl (XT.ii_ne_f (rfl : p0 = p0)) kt_) ?_
      refine own_by (T' := T64) (g' := (mkF m 168 #[.val (.int p0), .val (.int p1), .val (.int p2), .val (.int ((p2 &&& (2147483647 : Int32)) % (6 : Int32))), .val (.ref wNE), .val (.int (1 : Int32)), .val (.int (-1 : Int32)), .val (.ref b40), .val (.ref b_55)] [(.ref b40)])) (fun _ kt_ => XS.aload X64.here hx rfl (hb hby at_166) rfl rfl kt_) ?_
      have f67 : Fld Z T53.heap b40 "com/example/redoubt/redoubt/core/Cell" "r" "I" (.int p1) := (p46_1.keep K53 nin0)
      obtain ⟨cq68, kq68, q68a, q68b, q68c⟩ := isOf hZ e64 f65
      obtain ⟨_, _, ⟨T68, L68, k68, n68⟩, -, X68, ⟨Lc68, hQ68, l68, y68, z68⟩, st68⟩ := X64.virtualBack hx (y := (⟨"com/example/redoubt/redoubt/core/Cell", "r", "()I"⟩ : MethodName)) (z := (⟨"com/example/redoubt/redoubt/core/Cell", "r", "()I"⟩ : MethodName)) hown (mvT hZ (hw _ (List.mem_of_getElem? (i := 48) rfl))) (mvT hZ (hw _ (List.mem_of_getElem? (i := 49) rfl))) (notFace_of_selects (args := #[]) (mvT hZ (hw _ (List.mem_of_getElem? (i := 51) rfl)))) (mvT hZ (hw _ (List.mem_of_getElem? (i := 51) rfl))) (mvT hZ (hw _ (List.mem_of_getElem? (i := 50) rfl))) (by decide) (backOf (W := 0) (rmR l Z a0 hw [] wN wNE wSE wS wSW wNW GS b40 p1 T53.heap n0 (by omega) oo57 f67) hZ (hw _ (List.mem_of_getElem? (i := 52) rfl)) (hw _ (List.mem_of_getElem? (i := 6) rfl)) (by decide) (by decide)) q68a q68c (g := (mkF m 168 #[.val (.int p0), .val (.int p1), .val (.int p2), .val (.int ((p2 &&& (2147483647 : Int32)) % (6 : Int32))), .val (.ref wNE), .val (.int (1 : Int32)), .val (.int (-1 : Int32)), .val (.ref b40), .val (.ref b_55)] [(.ref b40)])) rfl (by rw [hml]; rfl) (Steps.refl _) (argsL := []) (rest := []) (lenOf own_pd_1 rfl) rfl (by show 2 * 0 + _ ≤ _; exact Nat.le_of_eq rfl) (hb hby at_168) (fun _ _ => ⟨rfl, e64, (by decide : 2 + 0 ≤ _), (by decide : 4 + 0 ≤ _)⟩)
      dsimp only [Pt.U, Pt.locs, Pt.cells, Pt.slots] at X68 l68 y68 z68 st68 hQ68
      subst l68 y68 z68
      obtain ⟨rfl, N68q, e68⟩ := hQ68
      have N69 := Fr.app N66 N68q
      refine own_by (T' := T68) (g' := (mkF m 171 #[.val (.int p0), .val (.int p1), .val (.int p2), .val (.int ((p2 &&& (2147483647 : Int32)) % (6 : Int32))), .val (.ref wNE), .val (.int (1 : Int32)), .val (.int (-1 : Int32)), .val (.ref b40), .val (.ref b_55)] [(.int p1)])) (fun _ kt_ => st68.trans kt_) ?_
      refine own_by (T' := T68) (g' := (mkF m 172 #[.val (.int p0), .val (.int p1), .val (.int p2), .val (.int ((p2 &&& (2147483647 : Int32)) % (6 : Int32))), .val (.ref wNE), .val (.int (1 : Int32)), .val (.int (-1 : Int32)), .val (.ref b40), .val (.ref b_55)] [(.int p1), (.int p1)])) (fun _ kt_ => XS.iloadN X68.here hx rfl (hb hby at_171) rfl kt_) ?_
      refine own_by (T' := T68) (g' := (mkF m 175 #[.val (.int p0), .val (.int p1), .val (.int p2), .val (.int ((p2 &&& (2147483647 : Int32)) % (6 : Int32))), .val (.ref wNE), .val (.int (1 : Int32)), .val (.int (-1 : Int32)), .val (.ref b40), .val (.ref b_55)] [])) (fun _ kt_ => XS.icmpNo X68.here hx rfl (hb hby at_172) rfl (XT.ii_ne_f (rfl : p1 = p1)) kt_) ?_
      refine own_by (T' := T68) (g' := (mkF m 176 #[.val (.int p0), .val (.int p1), .val (.int p2), .val (.int ((p2 &&& (2147483647 : Int32)) % (6 : Int32))), .val (.ref wNE), .val (.int (1 : Int32)), .val (.int (-1 : Int32)), .val (.ref b40), .val (.ref b_55)] [(.int (1 : Int32))])) (fun _ kt_ => XS.iconst X68.here hx rfl (hb hby at_175) kt_) ?_
      refine own_by (T' := T68) (g' := (mkF m 180 #[.val (.int p0), .val (.int p1), .val (.int p2), .val (.int ((p2 &&& (2147483647 : Int32)) % (6 : Int32))), .val (.ref wNE), .val (.int (1 : Int32)), .val (.int (-1 : Int32)), .val (.ref b40), .val (.ref b_55)] [(.int (1 : Int32))])) (fun _ kt_ => XS.goto X68.here hx rfl (pc0 := 176) (pc' := 180) rfl (hb hby at_176) (by decide) (by decide) kt_) ?_
      have hn70 : nar .boolean (1 : Int32) = (1 : Int32) := rfl
      obtain ⟨fs71, hr71, hrun71, hended71, hW71, hsame71⟩ := X68.leave (v := some (.int (nar .boolean (1 : Int32)))) (fun h => by rw [Bd.returns] at h; cases h)
      refine ⟨_, _, retN X68 hx (t := .boolean) Bd.returns (by simp) (hb hby at_180) hr71, hrun71, hended71, _, _, rfl, ?_, ⟨_, rfl⟩, hW71, hsame71.mono (by decide) (by decide)⟩
      show Q_rm0 Z wN wNE wSE wS wSW wNW p0 p1 p2 h0 n0 _ T68.heap _
      exact ⟨(congrArg (fun z => some (Value.int z)) hn70), N69⟩
    · refine own_by (T' := s₁) (g' := (mkF m 45 #[.val (.int p0), .val (.int p1), .val (.int p2), .val (.int ((p2 &&& (2147483647 : Int32)) % (6 : Int32))), .unset, .unset, .unset, .unset, .unset] [])) (fun _ kt_ => XS.icmpYes X0.here hx rfl (pc0 := 28) (pc' := 45) rfl (hb hby at_28) rfl (XT.ii_ne_t hc37) (by decide) (by decide) kt_) ?_
      refine own_by (T' := s₁) (g' := (mkF m 46 #[.val (.int p0), .val (.int p1), .val (.int p2), .val (.int ((p2 &&& (2147483647 : Int32)) % (6 : Int32))), .unset, .unset, .unset, .unset, .unset] [(.int ((p2 &&& (2147483647 : Int32)) % (6 : Int32)))])) (fun _ kt_ => XS.iloadN X0.here hx rfl (hb hby at_45) rfl kt_) ?_
      refine own_by (T' := s₁) (g' := (mkF m 47 #[.val (.int p0), .val (.int p1), .val (.int p2), .val (.int ((p2 &&& (2147483647 : Int32)) % (6 : Int32))), .unset, .unset, .unset, .unset, .unset] [(.int (2 : Int32)), (.int ((p2 &&& (2147483647 : Int32)) % (6 : Int32)))])) (fun _ kt_ => XS.iconst X0.here hx rfl (hb hby at_46) kt_) ?_
      by_cases hc72 : ((p2 &&& (2147483647 : Int32)) % (6 : Int32)) = (2 : Int32)
      · refine own_by (T' := s₁) (g' := (mkF m 50 #[.val (.int p0), .val (.int p1), .val (.int p2), .val (.int ((p2 &&& (2147483647 : Int32)) % (6 : Int32))), .unset, .unset, .unset, .unset, .unset] [])) (fun _ kt_ => XS.icmpNo X0.here hx rfl (hb hby at_47) rfl (XT.ii_ne_f hc72) kt_) ?_
        have f73 := GS.2.2.2.2.2.2.2.2.1.ext O0.2
        obtain ⟨T74, X74, e74, st74⟩ := getS2 X0 hx hZ hown (host := "") (Or.inl (hw _ (List.mem_of_getElem? (i := 1) rfl))) Via.refl e0 f73 (g := (mkF m 50 #[.val (.int p0), .val (.int p1), .val (.int p2), .val (.int ((p2 &&& (2147483647 : Int32)) % (6 : Int32))), .unset, .unset, .unset, .unset, .unset] [])) rfl (hb hby at_50)
        refine own_by (T' := T74) (g' := (mkF m 53 #[.val (.int p0), .val (.int p1), .val (.int p2), .val (.int ((p2 &&& (2147483647 : Int32)) % (6 : Int32))), .unset, .unset, .unset, .unset, .unset] [(.ref wSE)])) st74 ?_
        refine own_by (T' := T74) (g' := (mkF m 55 #[.val (.int p0), .val (.int p1), .val (.int p2), .val (.int ((p2 &&& (2147483647 : Int32)) % (6 : Int32))), .val (.ref wSE), .unset, .unset, .unset, .unset] [])) (fun _ kt_ => XS.astore X74.here hx rfl (hb hby at_53) rfl rfl (l' := #[.val (.int p0), .val (.int p1), .val (.int p2), .val (.int ((p2 &&& (2147483647 : Int32)) % (6 : Int32))), .val (.ref wSE), .unset, .unset, .unset, .unset]) rfl kt_) ?_
        refine own_by (T' := T74) (g' := (mkF m 56 #[.val (.int p0), .val (.int p1), .val (.int p2), .val (.int ((p2 &&& (2147483647 : Int32)) % (6 : Int32))), .val (.ref wSE), .unset, .unset, .unset, .unset] [(.int (1 : Int32))])) (fun _ kt_ => XS.iconst X74.here hx rfl (hb hby at_55) kt_) ?_
        refine own_by (T' := T74) (g' := (mkF m 58 #[.val (.int p0), .val (.int p1), .val (.int p2), .val (.int ((p2 &&& (2147483647 : Int32)) % (6 : Int32))), .val (.ref wSE), .val (.int (1 : Int32)), .unset, .unset, .unset] [])) (fun _ kt_ => XS.istore X74.here hx rfl (hb hby at_56) rfl (l' := #[.val (.int p0), .val (.int p1), .val (.int p2), .val (.int ((p2 &&& (2147483647 : Int32)) % (6 : Int32))), .val (.ref wSE), .val (.int (1 : Int32)), .unset, .unset, .unset]) rfl kt_) ?_
        refine own_by (T' := T74) (g' := (mkF m 59 #[.val (.int p0), .val (.int p1), .val (.int p2), .val (.int ((p2 &&& (2147483647 : Int32)) % (6 : Int32))), .val (.ref wSE), .val (.int (1 : Int32)), .unset, .unset, .unset] [(.int (0 : Int32))])) (fun _ kt_ => XS.iconst X74.here hx rfl (hb hby at_58) kt_) ?_
        refine own_by (T' := T74) (g' := (mkF m 61 #[.val (.int p0), .val (.int p1), .val (.int p2), .val (.int ((p2 &&& (2147483647 : Int32)) % (6 : Int32))), .val (.ref wSE), .val (.int (1 : Int32)), .val (.int (0 : Int32)), .unset, .unset] [])) (fun _ kt_ => XS.istore X74.here hx rfl (hb hby at_59) rfl (l' := #[.val (.int p0), .val (.int p1), .val (.int p2), .val (.int ((p2 &&& (2147483647 : Int32)) % (6 : Int32))), .val (.ref wSE), .val (.int (1 : Int32)), .val (.int (0 : Int32)), .unset, .unset]) rfl kt_) ?_
        refine own_by (T' := T74) (g' := (mkF m 113 #[.val (.int p0), .val (.int p1), .val (.int p2), .val (.int ((p2 &&& (2147483647 : Int32)) % (6 : Int32))), .val (.ref wSE), .val (.int (1 : Int32)), .val (.int (0 : Int32)), .unset, .unset] [])) (fun _ kt_ => XS.goto X74.here hx rfl (pc0 := 61) (pc' := 113) rfl (hb hby at_61) (by decide) (by decide) kt_) ?_
        obtain ⟨T75, h75, X75, e75, E75, A75, D75, -, st75⟩ := newO X74 hx hZ hown (hw _ (List.mem_of_getElem? (i := 4) rfl)) (hw _ (List.mem_of_getElem? (i := 5) rfl)) (hw _ (List.mem_of_getElem? (i := 6) rfl)) e74 (g := (mkF m 113 #[.val (.int p0), .val (.int p1), .val (.int p2), .val (.int ((p2 &&& (2147483647 : Int32)) % (6 : Int32))), .val (.ref wSE), .val (.int (1 : Int32)), .val (.int (0 : Int32)), .unset, .unset] [])) rfl (hb hby at_113) (by decide) (by decide)
        obtain ⟨b75, g75⟩ : ∃ z, z = h0.size := ⟨_, rfl⟩
        rw [← g75] at A75 D75 st75
        have K76 : Keep h0 h75 [] := own_kext E75
        have zzK76 : h0.size ≤ h75.size := K76.1
        have oo77 : Old Z n0 h75 := O0.keep K76 all0
        have kt78 : Keep h0 h75 [] := KT0.trans K76 all0
        have lab75 := A75.lt
        have f79 : Fld Z h75 b75 "com/example/redoubt/redoubt/core/Cell" "q" "I" (.int (0 : Int32)) := D75 (Or.inr (hw _ (List.mem_of_getElem? (i := 19) rfl))) (ty := .int) (by decide)
        have f80 : Fld Z h75 b75 "com/example/redoubt/redoubt/core/Cell" "r" "I" (.int (0 : Int32)) := D75 (Or.inr (hw _ (List.mem_of_getElem? (i := 21) rfl))) (ty := .int) (by decide)
        refine own_by (T' := T75) (g' := (mkF m 116 #[.val (.int p0), .val (.int p1), .val (.int p2), .val (.int ((p2 &&& (2147483647 : Int32)) % (6 : Int32))), .val (.ref wSE), .val (.int (1 : Int32)), .val (.int (0 : Int32)), .unset, .unset] [(.ref b75)])) st75 ?_
        refine own_by (T' := T75) (g' := (mkF m 117 #[.val (.int p0), .val (.int p1), .val (.int p2), .val (.int ((p2 &&& (2147483647 : Int32)) % (6 : Int32))), .val (.ref wSE), .val (.int (1 : Int32)), .val (.int (0 : Int32)), .unset, .unset] [(.ref b75), (.ref b75)])) (fun _ kt_ => XS.dup X75.here hx rfl (hb hby at_116) rfl rfl kt_) ?_
        refine own_by (T' := T75) (g' := (mkF m 118 #[.val (.int p0), .val (.int p1), .val (.int p2), .val (.int ((p2 &&& (2147483647 : Int32)) % (6 : Int32))), .val (.ref wSE), .val (.int (1 : Int32)), .val (.int (0 : Int32)), .unset, .unset] [(.int p0), (.ref b75), (.ref b75)])) (fun _ kt_ => XS.iloadN X75.here hx rfl (hb hby at_117) rfl kt_) ?_
        refine own_by (T' := T75) (g' := (mkF m 119 #[.val (.int p0), .val (.int p1), .val (.int p2), .val (.int ((p2 &&& (2147483647 : Int32)) % (6 : Int32))), .val (.ref wSE), .val (.int (1 : Int32)), .val (.int (0 : Int32)), .unset, .unset] [(.int p1), (.int p0), (.ref b75), (.ref b75)])) (fun _ kt_ => XS.iloadN X75.here hx rfl (hb hby at_118) rfl kt_) ?_
        obtain ⟨_, _, ⟨T81, L81, k81, n81⟩, -, X81, ⟨Lc81, hQ81, l81, y81, z81⟩, st81⟩ := X75.specialBack hx (y := (⟨"com/example/redoubt/redoubt/core/Cell", "<init>", "(II)V"⟩ : MethodName)) rfl hown (mvT hZ (hw _ (List.mem_of_getElem? (i := 7) rfl))) (mvT hZ (hw _ (List.mem_of_getElem? (i := 8) rfl))) (mvT hZ (hw _ (List.mem_of_getElem? (i := 9) rfl))) (by decide) (backOf (W := 1) (rmIni l Z a0 hw [] wN wNE wSE wS wSW wNW GS b75 p0 p1 h75 n0 (by omega) oo77 A75 (by omega) f79 f80) hZ (hw _ (List.mem_of_getElem? (i := 9) rfl)) (hw _ (List.mem_of_getElem? (i := 6) rfl)) (by decide) (by decide)) (g := (mkF m 119 #[.val (.int p0), .val (.int p1), .val (.int p2), .val (.int ((p2 &&& (2147483647 : Int32)) % (6 : Int32))), .val (.ref wSE), .val (.int (1 : Int32)), .val (.int (0 : Int32)), .unset, .unset] [(.int p1), (.int p0), (.ref b75), (.ref b75)])) rfl (by rw [hml]; rfl) (Steps.refl _) (a := b75) (argsL := [(.int p0), (.int p1)]) (rest := [(.ref b75)]) (lenOf own_pd_2 rfl) rfl (by show 2 * 0 + _ ≤ _; exact Nat.le_of_eq rfl) (hb hby at_119) (fun _ _ => ⟨rfl, e75, (by decide : 1 + 0 ≤ _), (by decide : 2 + 0 ≤ _)⟩)
        dsimp only [Pt.U, Pt.locs, Pt.cells, Pt.slots] at X81 l81 y81 z81 st81 hQ81
        subst l81 y81 z81
        obtain ⟨rfl, N81q, K81, p81_0, p81_1⟩ := hQ81
        have N82 := Fr.app N0 N81q
        have zzK81 : h75.size ≤ T81.heap.size := K81.1
        have oo83 : Old Z n0 T81.heap := oo77.keep K81 (allS (by omega : n0 ≤ b75) all0)
        have kt84 : Keep h0 T81.heap [] := kt78.trans K81 (allS (Or.inr (by omega : h0.size ≤ b75)) all0)
        refine own_by (T' := T81) (g' := (mkF m 122 #[.val (.int p0), .val (.int p1), .val (.int p2), .val (.int ((p2 &&& (2147483647 : Int32)) % (6 : Int32))), .val (.ref wSE), .val (.int (1 : Int32)), .val (.int (0 : Int32)), .unset, .unset] [(.ref b75)])) (fun _ kt_ => st81.trans kt_) ?_
        refine own_by (T' := T81) (g' := (mkF m 124 #[.val (.int p0), .val (.int p1), .val (.int p2), .val (.int ((p2 &&& (2147483647 : Int32)) % (6 : Int32))), .val (.ref wSE), .val (.int (1 : Int32)), .val (.int (0 : Int32)), .val (.ref b75), .unset] [])) (fun _ kt_ => XS.astore X81.here hx rfl (hb hby at_122) rfl rfl (l' := #[.val (.int p0), .val (.int p1), .val (.int p2), .val (.int ((p2 &&& (2147483647 : Int32)) % (6 : Int32))), .val (.ref wSE), .val (.int (1 : Int32)), .val (.int (0 : Int32)), .val (.ref b75), .unset]) rfl kt_) ?_
        refine own_by (T' := T81) (g' := (mkF m 126 #[.val (.int p0), .val (.int p1), .val (.int p2), .val (.int ((p2 &&& (2147483647 : Int32)) % (6 : Int32))), .val (.ref wSE), .val (.int (1 : Int32)), .val (.int (0 : Int32)), .val (.ref b75), .unset] [(.ref b75)])) (fun _ kt_ => XS.aload X81.here hx rfl (hb hby at_124) rfl rfl kt_) ?_
        refine own_by (T' := T81) (g' := (mkF m 128 #[.val (.int p0), .val (.int p1), .val (.int p2), .val (.int ((p2 &&& (2147483647 : Int32)) % (6 : Int32))), .val (.ref wSE), .val (.int (1 : Int32)), .val (.int (0 : Int32)), .val (.ref b75), .unset] [(.ref wSE), (.ref b75)])) (fun _ kt_ => XS.aload X81.here hx rfl (hb hby at_126) rfl rfl kt_) ?_
        have f85 := GS.2.2.2.2.2.2.2.2.2.1.ext oo83.2
        have f86 := GS.2.2.2.2.2.2.2.2.2.2.1.ext oo83.2
        have f87 := GS.2.2.2.2.2.2.2.2.2.2.2.1.ext oo83.2
        have f89 : Exa Z T81.heap b75 "com/example/redoubt/redoubt/core/Cell" := (A75.keep K81)
        obtain ⟨cq88, kq88, q88a, q88b, q88c⟩ := isOf hZ rfl f89
        obtain ⟨_, _, ⟨T88, L88, k88, n88⟩, -, X88, ⟨Lc88, hQ88, l88, y88, z88⟩, st88⟩ := X81.virtualBack hx (y := (⟨"com/example/redoubt/redoubt/core/Cell", "step", "(Lcom/example/redoubt/redoubt/core/Direction;)Lcom/example/redoubt/redoubt/core/Cell;"⟩ : MethodName)) (z := (⟨"com/example/redoubt/redoubt/core/Cell", "step", "(Lcom/example/redoubt/redoubt/core/Direction;)Lcom/example/redoubt/redoubt/core/Cell;"⟩ : MethodName)) hown (mvT hZ (hw _ (List.mem_of_getElem? (i := 22) rfl))) (mvT hZ (hw _ (List.mem_of_getElem? (i := 23) rfl))) (notFace_of_selects (args := #[]) (mvT hZ (hw _ (List.mem_of_getElem? (i := 25) rfl)))) (mvT hZ (hw _ (List.mem_of_getElem? (i := 25) rfl))) (mvT hZ (hw _ (List.mem_of_getElem? (i := 24) rfl))) (by decide) (backOf (W := 0) (rmStep l Z a0 hw [] wN wNE wSE wS wSW wNW GS b75 wSE p0 p1 (1 : Int32) (0 : Int32) T81.heap n0 (by omega) oo83 p81_0 p81_1 f85 f86 f87) hZ (hw _ (List.mem_of_getElem? (i := 26) rfl)) (hw _ (List.mem_of_getElem? (i := 6) rfl)) (by decide) (by decide)) q88a q88c (g := (mkF m 128 #[.val (.int p0), .val (.int p1), .val (.int p2), .val (.int ((p2 &&& (2147483647 : Int32)) % (6 : Int32))), .val (.ref wSE), .val (.int (1 : Int32)), .val (.int (0 : Int32)), .val (.ref b75), .unset] [(.ref wSE), (.ref b75)])) rfl (by rw [hml]; rfl) (Steps.refl _) (argsL := [(.ref wSE)]) (rest := []) (lenOf own_pd_3 rfl) rfl (by show 2 * 0 + _ ≤ _; exact Nat.le_of_eq rfl) (hb hby at_128) (fun _ _ => ⟨rfl, rfl, (by decide : 1 + 1 ≤ _), (by decide : 2 + 2 ≤ _)⟩)
        dsimp only [Pt.U, Pt.locs, Pt.cells, Pt.slots] at X88 l88 y88 z88 st88 hQ88
        subst l88 y88 z88
        obtain ⟨b_90, rfl, N88q, K88, p88_0, p88_1, p88_2, p88_3⟩ := hQ88
        have N91 := Fr.app N82 N88q
        have gb_90 : T81.heap.size ≤ b_90 := p88_0
        have zzK88 : T81.heap.size ≤ T88.heap.size := K88.1
        have oo92 : Old Z n0 T88.heap := oo83.keep K88 all0
        have kt93 : Keep h0 T88.heap [] := kt84.trans K88 all0
        refine own_by (T' := T88) (g' := (mkF m 131 #[.val (.int p0), .val (.int p1), .val (.int p2), .val (.int ((p2 &&& (2147483647 : Int32)) % (6 : Int32))), .val (.ref wSE), .val (.int (1 : Int32)), .val (.int (0 : Int32)), .val (.ref b75), .unset] [(.ref b_90)])) (fun _ kt_ => st88.trans kt_) ?_
        refine own_by (T' := T88) (g' := (mkF m 133 #[.val (.int p0), .val (.int p1), .val (.int p2), .val (.int ((p2 &&& (2147483647 : Int32)) % (6 : Int32))), .val (.ref wSE), .val (.int (1 : Int32)), .val (.int (0 : Int32)), .val (.ref b75), .val (.ref b_90)] [])) (fun _ kt_ => XS.astore X88.here hx rfl (hb hby at_131) rfl rfl (l' := #[.val (.int p0), .val (.int p1), .val (.int p2), .val (.int ((p2 &&& (2147483647 : Int32)) % (6 : Int32))), .val (.ref wSE), .val (.int (1 : Int32)), .val (.int (0 : Int32)), .val (.ref b75), .val (.ref b_90)]) rfl kt_) ?_
        refine own_by (T' := T88) (g' := (mkF m 135 #[.val (.int p0), .val (.int p1), .val (.int p2), .val (.int ((p2 &&& (2147483647 : Int32)) % (6 : Int32))), .val (.ref wSE), .val (.int (1 : Int32)), .val (.int (0 : Int32)), .val (.ref b75), .val (.ref b_90)] [(.ref b_90)])) (fun _ kt_ => XS.aload X88.here hx rfl (hb hby at_133) rfl rfl kt_) ?_
        obtain ⟨cq94, kq94, q94a, q94b, q94c⟩ := isOf hZ rfl p88_1
        obtain ⟨_, _, ⟨T94, L94, k94, n94⟩, -, X94, ⟨Lc94, hQ94, l94, y94, z94⟩, st94⟩ := X88.virtualBack hx (y := (⟨"com/example/redoubt/redoubt/core/Cell", "q", "()I"⟩ : MethodName)) (z := (⟨"com/example/redoubt/redoubt/core/Cell", "q", "()I"⟩ : MethodName)) hown (mvT hZ (hw _ (List.mem_of_getElem? (i := 43) rfl))) (mvT hZ (hw _ (List.mem_of_getElem? (i := 44) rfl))) (notFace_of_selects (args := #[]) (mvT hZ (hw _ (List.mem_of_getElem? (i := 46) rfl)))) (mvT hZ (hw _ (List.mem_of_getElem? (i := 46) rfl))) (mvT hZ (hw _ (List.mem_of_getElem? (i := 45) rfl))) (by decide) (backOf (W := 0) (rmQ l Z a0 hw [] wN wNE wSE wS wSW wNW GS b_90 (p0 + (1 : Int32)) T88.heap n0 (by omega) oo92 p88_2) hZ (hw _ (List.mem_of_getElem? (i := 47) rfl)) (hw _ (List.mem_of_getElem? (i := 6) rfl)) (by decide) (by decide)) q94a q94c (g := (mkF m 135 #[.val (.int p0), .val (.int p1), .val (.int p2), .val (.int ((p2 &&& (2147483647 : Int32)) % (6 : Int32))), .val (.ref wSE), .val (.int (1 : Int32)), .val (.int (0 : Int32)), .val (.ref b75), .val (.ref b_90)] [(.ref b_90)])) rfl (by rw [hml]; rfl) (Steps.refl _) (argsL := []) (rest := []) (lenOf own_pd_1 rfl) rfl (by show 2 * 0 + _ ≤ _; exact Nat.le_of_eq rfl) (hb hby at_135) (fun _ _ => ⟨rfl, rfl, (by decide : 2 + 0 ≤ _), (by decide : 4 + 0 ≤ _)⟩)
        dsimp only [Pt.U, Pt.locs, Pt.cells, Pt.slots] at X94 l94 y94 z94 st94 hQ94
        subst l94 y94 z94
        obtain ⟨rfl, N94q, e94⟩ := hQ94
        have N95 := Fr.app N91 N94q
        refine own_by (T' := T94) (g' := (mkF m 138 #[.val (.int p0), .val (.int p1), .val (.int p2), .val (.int ((p2 &&& (2147483647 : Int32)) % (6 : Int32))), .val (.ref wSE), .val (.int (1 : Int32)), .val (.int (0 : Int32)), .val (.ref b75), .val (.ref b_90)] [(.int (p0 + (1 : Int32)))])) (fun _ kt_ => st94.trans kt_) ?_
        refine own_by (T' := T94) (g' := (mkF m 139 #[.val (.int p0), .val (.int p1), .val (.int p2), .val (.int ((p2 &&& (2147483647 : Int32)) % (6 : Int32))), .val (.ref wSE), .val (.int (1 : Int32)), .val (.int (0 : Int32)), .val (.ref b75), .val (.ref b_90)] [(.int p0), (.int (p0 + (1 : Int32)))])) (fun _ kt_ => XS.iloadN X94.here hx rfl (hb hby at_138) rfl kt_) ?_
        refine own_by (T' := T94) (g' := (mkF m 141 #[.val (.int p0), .val (.int p1), .val (.int p2), .val (.int ((p2 &&& (2147483647 : Int32)) % (6 : Int32))), .val (.ref wSE), .val (.int (1 : Int32)), .val (.int (0 : Int32)), .val (.ref b75), .val (.ref b_90)] [(.int (1 : Int32)), (.int p0), (.int (p0 + (1 : Int32)))])) (fun _ kt_ => XS.iload X94.here hx rfl (hb hby at_139) rfl kt_) ?_
        refine own_by (T' := T94) (g' := (mkF m 142 #[.val (.int p0), .val (.int p1), .val (.int p2), .val (.int ((p2 &&& (2147483647 : Int32)) % (6 : Int32))), .val (.ref wSE), .val (.int (1 : Int32)), .val (.int (0 : Int32)), .val (.ref b75), .val (.ref b_90)] [(.int (p0 + (1 : Int32))), (.int (p0 + (1 : Int32)))])) (fun _ kt_ => XS.iadd X94.here hx rfl (hb hby at_141) rfl kt_) ?_
        refine own_by (T' := T94) (g' := (mkF m 145 #[.val (.int p0), .val (.int p1), .val (.int p2), .val (.int ((p2 &&& (2147483647 : Int32)) % (6 : Int32))), .val (.ref wSE), .val (.int (1 : Int32)), .val (.int (0 : Int32)), .val (.ref b75), .val (.ref b_90)] [])) (fun _ kt_ => XS.icmpNo X94.here hx rfl (hb hby at_142) rfl (XT.ii_ne_f (rfl : (p0 + (1 : Int32)) = (p0 + (1 : Int32)))) kt_) ?_
        refine own_by (T' := T94) (g' := (mkF m 147 #[.val (.int p0), .val (.int p1), .val (.int p2), .val (.int ((p2 &&& (2147483647 : Int32)) % (6 : Int32))), .val (.ref wSE), .val (.int (1 : Int32)), .val (.int (0 : Int32)), .val (.ref b75), .val (.ref b_90)] [(.ref b_90)])) (fun _ kt_ => XS.aload X94.here hx rfl (hb hby at_145) rfl rfl kt_) ?_
        obtain ⟨cq96, kq96, q96a, q96b, q96c⟩ := isOf hZ e94 p88_1
        obtain ⟨_, _, ⟨T96, L96, k96, n96⟩, -, X96, ⟨Lc96, hQ96, l96, y96, z96⟩, st96⟩ := X94.virtualBack hx (y := (⟨"com/example/redoubt/redoubt/core/Cell", "r", "()I"⟩ : MethodName)) (z := (⟨"com/example/redoubt/redoubt/core/Cell", "r", "()I"⟩ : MethodName)) hown (mvT hZ (hw _ (List.mem_of_getElem? (i := 48) rfl))) (mvT hZ (hw _ (List.mem_of_getElem? (i := 49) rfl))) (notFace_of_selects (args := #[]) (mvT hZ (hw _ (List.mem_of_getElem? (i := 51) rfl)))) (mvT hZ (hw _ (List.mem_of_getElem? (i := 51) rfl))) (mvT hZ (hw _ (List.mem_of_getElem? (i := 50) rfl))) (by decide) (backOf (W := 0) (rmR l Z a0 hw [] wN wNE wSE wS wSW wNW GS b_90 (p1 + (0 : Int32)) T88.heap n0 (by omega) oo92 p88_3) hZ (hw _ (List.mem_of_getElem? (i := 52) rfl)) (hw _ (List.mem_of_getElem? (i := 6) rfl)) (by decide) (by decide)) q96a q96c (g := (mkF m 147 #[.val (.int p0), .val (.int p1), .val (.int p2), .val (.int ((p2 &&& (2147483647 : Int32)) % (6 : Int32))), .val (.ref wSE), .val (.int (1 : Int32)), .val (.int (0 : Int32)), .val (.ref b75), .val (.ref b_90)] [(.ref b_90)])) rfl (by rw [hml]; rfl) (Steps.refl _) (argsL := []) (rest := []) (lenOf own_pd_1 rfl) rfl (by show 2 * 0 + _ ≤ _; exact Nat.le_of_eq rfl) (hb hby at_147) (fun _ _ => ⟨rfl, e94, (by decide : 2 + 0 ≤ _), (by decide : 4 + 0 ≤ _)⟩)
        dsimp only [Pt.U, Pt.locs, Pt.cells, Pt.slots] at X96 l96 y96 z96 st96 hQ96
        subst l96 y96 z96
        obtain ⟨rfl, N96q, e96⟩ := hQ96
        have N97 := Fr.app N95 N96q
        refine own_by (T' := T96) (g' := (mkF m 150 #[.val (.int p0), .val (.int p1), .val (.int p2), .val (.int ((p2 &&& (2147483647 : Int32)) % (6 : Int32))), .val (.ref wSE), .val (.int (1 : Int32)), .val (.int (0 : Int32)), .val (.ref b75), .val (.ref b_90)] [(.int (p1 + (0 : Int32)))])) (fun _ kt_ => st96.trans kt_) ?_
        refine own_by (T' := T96) (g' := (mkF m 151 #[.val (.int p0), .val (.int p1), .val (.int p2), .val (.int ((p2 &&& (2147483647 : Int32)) % (6 : Int32))), .val (.ref wSE), .val (.int (1 : Int32)), .val (.int (0 : Int32)), .val (.ref b75), .val (.ref b_90)] [(.int p1), (.int (p1 + (0 : Int32)))])) (fun _ kt_ => XS.iloadN X96.here hx rfl (hb hby at_150) rfl kt_) ?_
        refine own_by (T' := T96) (g' := (mkF m 153 #[.val (.int p0), .val (.int p1), .val (.int p2), .val (.int ((p2 &&& (2147483647 : Int32)) % (6 : Int32))), .val (.ref wSE), .val (.int (1 : Int32)), .val (.int (0 : Int32)), .val (.ref b75), .val (.ref b_90)] [(.int (0 : Int32)), (.int p1), (.int (p1 + (0 : Int32)))])) (fun _ kt_ => XS.iload X96.here hx rfl (hb hby at_151) rfl kt_) ?_
        refine own_by (T' := T96) (g' := (mkF m 154 #[.val (.int p0), .val (.int p1), .val (.int p2), .val (.int ((p2 &&& (2147483647 : Int32)) % (6 : Int32))), .val (.ref wSE), .val (.int (1 : Int32)), .val (.int (0 : Int32)), .val (.ref b75), .val (.ref b_90)] [(.int (p1 + (0 : Int32))), (.int (p1 + (0 : Int32)))])) (fun _ kt_ => XS.iadd X96.here hx rfl (hb hby at_153) rfl kt_) ?_
        refine own_by (T' := T96) (g' := (mkF m 157 #[.val (.int p0), .val (.int p1), .val (.int p2), .val (.int ((p2 &&& (2147483647 : Int32)) % (6 : Int32))), .val (.ref wSE), .val (.int (1 : Int32)), .val (.int (0 : Int32)), .val (.ref b75), .val (.ref b_90)] [])) (fun _ kt_ => XS.icmpNo X96.here hx rfl (hb hby at_154) rfl (XT.ii_ne_f (rfl : (p1 + (0 : Int32)) = (p1 + (0 : Int32)))) kt_) ?_
        refine own_by (T' := T96) (g' := (mkF m 159 #[.val (.int p0), .val (.int p1), .val (.int p2), .val (.int ((p2 &&& (2147483647 : Int32)) % (6 : Int32))), .val (.ref wSE), .val (.int (1 : Int32)), .val (.int (0 : Int32)), .val (.ref b75), .val (.ref b_90)] [(.ref b75)])) (fun _ kt_ => XS.aload X96.here hx rfl (hb hby at_157) rfl rfl kt_) ?_
        have f98 : Fld Z T88.heap b75 "com/example/redoubt/redoubt/core/Cell" "q" "I" (.int p0) := (p81_0.keep K88 nin0)
        have f100 : Exa Z T88.heap b75 "com/example/redoubt/redoubt/core/Cell" := (f89.keep K88)
        obtain ⟨cq99, kq99, q99a, q99b, q99c⟩ := isOf hZ e96 f100
        obtain ⟨_, _, ⟨T99, L99, k99, n99⟩, -, X99, ⟨Lc99, hQ99, l99, y99, z99⟩, st99⟩ := X96.virtualBack hx (y := (⟨"com/example/redoubt/redoubt/core/Cell", "q", "()I"⟩ : MethodName)) (z := (⟨"com/example/redoubt/redoubt/core/Cell", "q", "()I"⟩ : MethodName)) hown (mvT hZ (hw _ (List.mem_of_getElem? (i := 43) rfl))) (mvT hZ (hw _ (List.mem_of_getElem? (i := 44) rfl))) (notFace_of_selects (args := #[]) (mvT hZ (hw _ (List.mem_of_getElem? (i := 46) rfl)))) (mvT hZ (hw _ (List.mem_of_getElem? (i := 46) rfl))) (mvT hZ (hw _ (List.mem_of_getElem? (i := 45) rfl))) (by decide) (backOf (W := 0) (rmQ l Z a0 hw [] wN wNE wSE wS wSW wNW GS b75 p0 T88.heap n0 (by omega) oo92 f98) hZ (hw _ (List.mem_of_getElem? (i := 47) rfl)) (hw _ (List.mem_of_getElem? (i := 6) rfl)) (by decide) (by decide)) q99a q99c (g := (mkF m 159 #[.val (.int p0), .val (.int p1), .val (.int p2), .val (.int ((p2 &&& (2147483647 : Int32)) % (6 : Int32))), .val (.ref wSE), .val (.int (1 : Int32)), .val (.int (0 : Int32)), .val (.ref b75), .val (.ref b_90)] [(.ref b75)])) rfl (by rw [hml]; rfl) (Steps.refl _) (argsL := []) (rest := []) (lenOf own_pd_1 rfl) rfl (by show 2 * 0 + _ ≤ _; exact Nat.le_of_eq rfl) (hb hby at_159) (fun _ _ => ⟨rfl, e96, (by decide : 2 + 0 ≤ _), (by decide : 4 + 0 ≤ _)⟩)
        dsimp only [Pt.U, Pt.locs, Pt.cells, Pt.slots] at X99 l99 y99 z99 st99 hQ99
        subst l99 y99 z99
        obtain ⟨rfl, N99q, e99⟩ := hQ99
        have N101 := Fr.app N97 N99q
        refine own_by (T' := T99) (g' := (mkF m 162 #[.val (.int p0), .val (.int p1), .val (.int p2), .val (.int ((p2 &&& (2147483647 : Int32)) % (6 : Int32))), .val (.ref wSE), .val (.int (1 : Int32)), .val (.int (0 : Int32)), .val (.ref b75), .val (.ref b_90)] [(.int p0)])) (fun _ kt_ => st99.trans kt_) ?_
        refine own_by (T' := T99) (g' := (mkF m 163 #[.val (.int p0), .val (.int p1), .val (.int p2), .val (.int ((p2 &&& (2147483647 : Int32)) % (6 : Int32))), .val (.ref wSE), .val (.int (1 : Int32)), .val (.int (0 : Int32)), .val (.ref b75), .val (.ref b_90)] [(.int p0), (.int p0)])) (fun _ kt_ => XS.iloadN X99.here hx rfl (hb hby at_162) rfl kt_) ?_
        refine own_by (T' := T99) (g' := (mkF m 166 #[.val (.int p0), .val (.int p1), .val (.int p2), .val (.int ((p2 &&& (2147483647 : Int32)) % (6 : Int32))), .val (.ref wSE), .val (.int (1 : Int32)), .val (.int (0 : Int32)), .val (.ref b75), .val (.ref b_90)] [])) (fun _ kt_ => XS.icmpNo X99.here hx rfl (hb hby at_163) rfl (XT.ii_ne_f (rfl : p0 = p0)) kt_) ?_
        refine own_by (T' := T99) (g' := (mkF m 168 #[.val (.int p0), .val (.int p1), .val (.int p2), .val (.int ((p2 &&& (2147483647 : Int32)) % (6 : Int32))), .val (.ref wSE), .val (.int (1 : Int32)), .val (.int (0 : Int32)), .val (.ref b75), .val (.ref b_90)] [(.ref b75)])) (fun _ kt_ => XS.aload X99.here hx rfl (hb hby at_166) rfl rfl kt_) ?_
        have f102 : Fld Z T88.heap b75 "com/example/redoubt/redoubt/core/Cell" "r" "I" (.int p1) := (p81_1.keep K88 nin0)
        obtain ⟨cq103, kq103, q103a, q103b, q103c⟩ := isOf hZ e99 f100
        obtain ⟨_, _, ⟨T103, L103, k103, n103⟩, -, X103, ⟨Lc103, hQ103, l103, y103, z103⟩, st103⟩ := X99.virtualBack hx (y := (⟨"com/example/redoubt/redoubt/core/Cell", "r", "()I"⟩ : MethodName)) (z := (⟨"com/example/redoubt/redoubt/core/Cell", "r", "()I"⟩ : MethodName)) hown (mvT hZ (hw _ (List.mem_of_getElem? (i := 48) rfl))) (mvT hZ (hw _ (List.mem_of_getElem? (i := 49) rfl))) (notFace_of_selects (args := #[]) (mvT hZ (hw _ (List.mem_of_getElem? (i := 51) rfl)))) (mvT hZ (hw _ (List.mem_of_getElem? (i := 51) rfl))) (mvT hZ (hw _ (List.mem_of_getElem? (i := 50) rfl))) (by decide) (backOf (W := 0) (rmR l Z a0 hw [] wN wNE wSE wS wSW wNW GS b75 p1 T88.heap n0 (by omega) oo92 f102) hZ (hw _ (List.mem_of_getElem? (i := 52) rfl)) (hw _ (List.mem_of_getElem? (i := 6) rfl)) (by decide) (by decide)) q103a q103c (g := (mkF m 168 #[.val (.int p0), .val (.int p1), .val (.int p2), .val (.int ((p2 &&& (2147483647 : Int32)) % (6 : Int32))), .val (.ref wSE), .val (.int (1 : Int32)), .val (.int (0 : Int32)), .val (.ref b75), .val (.ref b_90)] [(.ref b75)])) rfl (by rw [hml]; rfl) (Steps.refl _) (argsL := []) (rest := []) (lenOf own_pd_1 rfl) rfl (by show 2 * 0 + _ ≤ _; exact Nat.le_of_eq rfl) (hb hby at_168) (fun _ _ => ⟨rfl, e99, (by decide : 2 + 0 ≤ _), (by decide : 4 + 0 ≤ _)⟩)
        dsimp only [Pt.U, Pt.locs, Pt.cells, Pt.slots] at X103 l103 y103 z103 st103 hQ103
        subst l103 y103 z103
        obtain ⟨rfl, N103q, e103⟩ := hQ103
        have N104 := Fr.app N101 N103q
        refine own_by (T' := T103) (g' := (mkF m 171 #[.val (.int p0), .val (.int p1), .val (.int p2), .val (.int ((p2 &&& (2147483647 : Int32)) % (6 : Int32))), .val (.ref wSE), .val (.int (1 : Int32)), .val (.int (0 : Int32)), .val (.ref b75), .val (.ref b_90)] [(.int p1)])) (fun _ kt_ => st103.trans kt_) ?_
        refine own_by (T' := T103) (g' := (mkF m 172 #[.val (.int p0), .val (.int p1), .val (.int p2), .val (.int ((p2 &&& (2147483647 : Int32)) % (6 : Int32))), .val (.ref wSE), .val (.int (1 : Int32)), .val (.int (0 : Int32)), .val (.ref b75), .val (.ref b_90)] [(.int p1), (.int p1)])) (fun _ kt_ => XS.iloadN X103.here hx rfl (hb hby at_171) rfl kt_) ?_
        refine own_by (T' := T103) (g' := (mkF m 175 #[.val (.int p0), .val (.int p1), .val (.int p2), .val (.int ((p2 &&& (2147483647 : Int32)) % (6 : Int32))), .val (.ref wSE), .val (.int (1 : Int32)), .val (.int (0 : Int32)), .val (.ref b75), .val (.ref b_90)] [])) (fun _ kt_ => XS.icmpNo X103.here hx rfl (hb hby at_172) rfl (XT.ii_ne_f (rfl : p1 = p1)) kt_) ?_
        refine own_by (T' := T103) (g' := (mkF m 176 #[.val (.int p0), .val (.int p1), .val (.int p2), .val (.int ((p2 &&& (2147483647 : Int32)) % (6 : Int32))), .val (.ref wSE), .val (.int (1 : Int32)), .val (.int (0 : Int32)), .val (.ref b75), .val (.ref b_90)] [(.int (1 : Int32))])) (fun _ kt_ => XS.iconst X103.here hx rfl (hb hby at_175) kt_) ?_
        refine own_by (T' := T103) (g' := (mkF m 180 #[.val (.int p0), .val (.int p1), .val (.int p2), .val (.int ((p2 &&& (2147483647 : Int32)) % (6 : Int32))), .val (.ref wSE), .val (.int (1 : Int32)), .val (.int (0 : Int32)), .val (.ref b75), .val (.ref b_90)] [(.int (1 : Int32))])) (fun _ kt_ => XS.goto X103.here hx rfl (pc0 := 176) (pc' := 180) rfl (hb hby at_176) (by decide) (by decide) kt_) ?_
        have hn105 : nar .boolean (1 : Int32) = (1 : Int32) := rfl
        obtain ⟨fs106, hr106, hrun106, hended106, hW106, hsame106⟩ := X103.leave (v := some (.int (nar .boolean (1 : Int32)))) (fun h => by rw [Bd.returns] at h; cases h)
        refine ⟨_, _, retN X103 hx (t := .boolean) Bd.returns (by simp) (hb hby at_180) hr106, hrun106, hended106, _, _, rfl, ?_, ⟨_, rfl⟩, hW106, hsame106.mono (by decide) (by decide)⟩
        show Q_rm0 Z wN wNE wSE wS wSW wNW p0 p1 p2 h0 n0 _ T103.heap _
        exact ⟨(congrArg (fun z => some (Value.int z)) hn105), N104⟩
      · refine own_by (T' := s₁) (g' := (mkF m 64 #[.val (.int p0), .val (.int p1), .val (.int p2), .val (.int ((p2 &&& (2147483647 : Int32)) % (6 : Int32))), .unset, .unset, .unset, .unset, .unset] [])) (fun _ kt_ => XS.icmpYes X0.here hx rfl (pc0 := 47) (pc' := 64) rfl (hb hby at_47) rfl (XT.ii_ne_t hc72) (by decide) (by decide) kt_) ?_
        refine own_by (T' := s₁) (g' := (mkF m 65 #[.val (.int p0), .val (.int p1), .val (.int p2), .val (.int ((p2 &&& (2147483647 : Int32)) % (6 : Int32))), .unset, .unset, .unset, .unset, .unset] [(.int ((p2 &&& (2147483647 : Int32)) % (6 : Int32)))])) (fun _ kt_ => XS.iloadN X0.here hx rfl (hb hby at_64) rfl kt_) ?_
        refine own_by (T' := s₁) (g' := (mkF m 66 #[.val (.int p0), .val (.int p1), .val (.int p2), .val (.int ((p2 &&& (2147483647 : Int32)) % (6 : Int32))), .unset, .unset, .unset, .unset, .unset] [(.int (3 : Int32)), (.int ((p2 &&& (2147483647 : Int32)) % (6 : Int32)))])) (fun _ kt_ => XS.iconst X0.here hx rfl (hb hby at_65) kt_) ?_
        by_cases hc107 : ((p2 &&& (2147483647 : Int32)) % (6 : Int32)) = (3 : Int32)
        · refine own_by (T' := s₁) (g' := (mkF m 69 #[.val (.int p0), .val (.int p1), .val (.int p2), .val (.int ((p2 &&& (2147483647 : Int32)) % (6 : Int32))), .unset, .unset, .unset, .unset, .unset] [])) (fun _ kt_ => XS.icmpNo X0.here hx rfl (hb hby at_66) rfl (XT.ii_ne_f hc107) kt_) ?_
          have f108 := GS.2.2.2.2.2.2.2.2.2.2.2.2.1.ext O0.2
          obtain ⟨T109, X109, e109, st109⟩ := getS2 X0 hx hZ hown (host := "") (Or.inl (hw _ (List.mem_of_getElem? (i := 53) rfl))) Via.refl e0 f108 (g := (mkF m 69 #[.val (.int p0), .val (.int p1), .val (.int p2), .val (.int ((p2 &&& (2147483647 : Int32)) % (6 : Int32))), .unset, .unset, .unset, .unset, .unset] [])) rfl (hb hby at_69)
          refine own_by (T' := T109) (g' := (mkF m 72 #[.val (.int p0), .val (.int p1), .val (.int p2), .val (.int ((p2 &&& (2147483647 : Int32)) % (6 : Int32))), .unset, .unset, .unset, .unset, .unset] [(.ref wS)])) st109 ?_
          refine own_by (T' := T109) (g' := (mkF m 74 #[.val (.int p0), .val (.int p1), .val (.int p2), .val (.int ((p2 &&& (2147483647 : Int32)) % (6 : Int32))), .val (.ref wS), .unset, .unset, .unset, .unset] [])) (fun _ kt_ => XS.astore X109.here hx rfl (hb hby at_72) rfl rfl (l' := #[.val (.int p0), .val (.int p1), .val (.int p2), .val (.int ((p2 &&& (2147483647 : Int32)) % (6 : Int32))), .val (.ref wS), .unset, .unset, .unset, .unset]) rfl kt_) ?_
          refine own_by (T' := T109) (g' := (mkF m 75 #[.val (.int p0), .val (.int p1), .val (.int p2), .val (.int ((p2 &&& (2147483647 : Int32)) % (6 : Int32))), .val (.ref wS), .unset, .unset, .unset, .unset] [(.int (0 : Int32))])) (fun _ kt_ => XS.iconst X109.here hx rfl (hb hby at_74) kt_) ?_
          refine own_by (T' := T109) (g' := (mkF m 77 #[.val (.int p0), .val (.int p1), .val (.int p2), .val (.int ((p2 &&& (2147483647 : Int32)) % (6 : Int32))), .val (.ref wS), .val (.int (0 : Int32)), .unset, .unset, .unset] [])) (fun _ kt_ => XS.istore X109.here hx rfl (hb hby at_75) rfl (l' := #[.val (.int p0), .val (.int p1), .val (.int p2), .val (.int ((p2 &&& (2147483647 : Int32)) % (6 : Int32))), .val (.ref wS), .val (.int (0 : Int32)), .unset, .unset, .unset]) rfl kt_) ?_
          refine own_by (T' := T109) (g' := (mkF m 78 #[.val (.int p0), .val (.int p1), .val (.int p2), .val (.int ((p2 &&& (2147483647 : Int32)) % (6 : Int32))), .val (.ref wS), .val (.int (0 : Int32)), .unset, .unset, .unset] [(.int (1 : Int32))])) (fun _ kt_ => XS.iconst X109.here hx rfl (hb hby at_77) kt_) ?_
          refine own_by (T' := T109) (g' := (mkF m 80 #[.val (.int p0), .val (.int p1), .val (.int p2), .val (.int ((p2 &&& (2147483647 : Int32)) % (6 : Int32))), .val (.ref wS), .val (.int (0 : Int32)), .val (.int (1 : Int32)), .unset, .unset] [])) (fun _ kt_ => XS.istore X109.here hx rfl (hb hby at_78) rfl (l' := #[.val (.int p0), .val (.int p1), .val (.int p2), .val (.int ((p2 &&& (2147483647 : Int32)) % (6 : Int32))), .val (.ref wS), .val (.int (0 : Int32)), .val (.int (1 : Int32)), .unset, .unset]) rfl kt_) ?_
          refine own_by (T' := T109) (g' := (mkF m 113 #[.val (.int p0), .val (.int p1), .val (.int p2), .val (.int ((p2 &&& (2147483647 : Int32)) % (6 : Int32))), .val (.ref wS), .val (.int (0 : Int32)), .val (.int (1 : Int32)), .unset, .unset] [])) (fun _ kt_ => XS.goto X109.here hx rfl (pc0 := 80) (pc' := 113) rfl (hb hby at_80) (by decide) (by decide) kt_) ?_
          obtain ⟨T110, h110, X110, e110, E110, A110, D110, -, st110⟩ := newO X109 hx hZ hown (hw _ (List.mem_of_getElem? (i := 4) rfl)) (hw _ (List.mem_of_getElem? (i := 5) rfl)) (hw _ (List.mem_of_getElem? (i := 6) rfl)) e109 (g := (mkF m 113 #[.val (.int p0), .val (.int p1), .val (.int p2), .val (.int ((p2 &&& (2147483647 : Int32)) % (6 : Int32))), .val (.ref wS), .val (.int (0 : Int32)), .val (.int (1 : Int32)), .unset, .unset] [])) rfl (hb hby at_113) (by decide) (by decide)
          obtain ⟨b110, g110⟩ : ∃ z, z = h0.size := ⟨_, rfl⟩
          rw [← g110] at A110 D110 st110
          have K111 : Keep h0 h110 [] := own_kext E110
          have zzK111 : h0.size ≤ h110.size := K111.1
          have oo112 : Old Z n0 h110 := O0.keep K111 all0
          have kt113 : Keep h0 h110 [] := KT0.trans K111 all0
          have lab110 := A110.lt
          have f114 : Fld Z h110 b110 "com/example/redoubt/redoubt/core/Cell" "q" "I" (.int (0 : Int32)) := D110 (Or.inr (hw _ (List.mem_of_getElem? (i := 19) rfl))) (ty := .int) (by decide)
          have f115 : Fld Z h110 b110 "com/example/redoubt/redoubt/core/Cell" "r" "I" (.int (0 : Int32)) := D110 (Or.inr (hw _ (List.mem_of_getElem? (i := 21) rfl))) (ty := .int) (by decide)
          refine own_by (T' := T110) (g' := (mkF m 116 #[.val (.int p0), .val (.int p1), .val (.int p2), .val (.int ((p2 &&& (2147483647 : Int32)) % (6 : Int32))), .val (.ref wS), .val (.int (0 : Int32)), .val (.int (1 : Int32)), .unset, .unset] [(.ref b110)])) st110 ?_
          refine own_by (T' := T110) (g' := (mkF m 117 #[.val (.int p0), .val (.int p1), .val (.int p2), .val (.int ((p2 &&& (2147483647 : Int32)) % (6 : Int32))), .val (.ref wS), .val (.int (0 : Int32)), .val (.int (1 : Int32)), .unset, .unset] [(.ref b110), (.ref b110)])) (fun _ kt_ => XS.dup X110.here hx rfl (hb hby at_116) rfl rfl kt_) ?_
          refine own_by (T' := T110) (g' := (mkF m 118 #[.val (.int p0), .val (.int p1), .val (.int p2), .val (.int ((p2 &&& (2147483647 : Int32)) % (6 : Int32))), .val (.ref wS), .val (.int (0 : Int32)), .val (.int (1 : Int32)), .unset, .unset] [(.int p0), (.ref b110), (.ref b110)])) (fun _ kt_ => XS.iloadN X110.here hx rfl (hb hby at_117) rfl kt_) ?_
          refine own_by (T' := T110) (g' := (mkF m 119 #[.val (.int p0), .val (.int p1), .val (.int p2), .val (.int ((p2 &&& (2147483647 : Int32)) % (6 : Int32))), .val (.ref wS), .val (.int (0 : Int32)), .val (.int (1 : Int32)), .unset, .unset] [(.int p1), (.int p0), (.ref b110), (.ref b110)])) (fun _ kt_ => XS.iloadN X110.here hx rfl (hb hby at_118) rfl kt_) ?_
          obtain ⟨_, _, ⟨T116, L116, k116, n116⟩, -, X116, ⟨Lc116, hQ116, l116, y116, z116⟩, st116⟩ := X110.specialBack hx (y := (⟨"com/example/redoubt/redoubt/core/Cell", "<init>", "(II)V"⟩ : MethodName)) rfl hown (mvT hZ (hw _ (List.mem_of_getElem? (i := 7) rfl))) (mvT hZ (hw _ (List.mem_of_getElem? (i := 8) rfl))) (mvT hZ (hw _ (List.mem_of_getElem? (i := 9) rfl))) (by decide) (backOf (W := 1) (rmIni l Z a0 hw [] wN wNE wSE wS wSW wNW GS b110 p0 p1 h110 n0 (by omega) oo112 A110 (by omega) f114 f115) hZ (hw _ (List.mem_of_getElem? (i := 9) rfl)) (hw _ (List.mem_of_getElem? (i := 6) rfl)) (by decide) (by decide)) (g := (mkF m 119 #[.val (.int p0), .val (.int p1), .val (.int p2), .val (.int ((p2 &&& (2147483647 : Int32)) % (6 : Int32))), .val (.ref wS), .val (.int (0 : Int32)), .val (.int (1 : Int32)), .unset, .unset] [(.int p1), (.int p0), (.ref b110), (.ref b110)])) rfl (by rw [hml]; rfl) (Steps.refl _) (a := b110) (argsL := [(.int p0), (.int p1)]) (rest := [(.ref b110)]) (lenOf own_pd_2 rfl) rfl (by show 2 * 0 + _ ≤ _; exact Nat.le_of_eq rfl) (hb hby at_119) (fun _ _ => ⟨rfl, e110, (by decide : 1 + 0 ≤ _), (by decide : 2 + 0 ≤ _)⟩)
          dsimp only [Pt.U, Pt.locs, Pt.cells, Pt.slots] at X116 l116 y116 z116 st116 hQ116
          subst l116 y116 z116
          obtain ⟨rfl, N116q, K116, p116_0, p116_1⟩ := hQ116
          have N117 := Fr.app N0 N116q
          have zzK116 : h110.size ≤ T116.heap.size := K116.1
          have oo118 : Old Z n0 T116.heap := oo112.keep K116 (allS (by omega : n0 ≤ b110) all0)
          have kt119 : Keep h0 T116.heap [] := kt113.trans K116 (allS (Or.inr (by omega : h0.size ≤ b110)) all0)
          refine own_by (T' := T116) (g' := (mkF m 122 #[.val (.int p0), .val (.int p1), .val (.int p2), .val (.int ((p2 &&& (2147483647 : Int32)) % (6 : Int32))), .val (.ref wS), .val (.int (0 : Int32)), .val (.int (1 : Int32)), .unset, .unset] [(.ref b110)])) (fun _ kt_ => st116.trans kt_) ?_
          refine own_by (T' := T116) (g' := (mkF m 124 #[.val (.int p0), .val (.int p1), .val (.int p2), .val (.int ((p2 &&& (2147483647 : Int32)) % (6 : Int32))), .val (.ref wS), .val (.int (0 : Int32)), .val (.int (1 : Int32)), .val (.ref b110), .unset] [])) (fun _ kt_ => XS.astore X116.here hx rfl (hb hby at_122) rfl rfl (l' := #[.val (.int p0), .val (.int p1), .val (.int p2), .val (.int ((p2 &&& (2147483647 : Int32)) % (6 : Int32))), .val (.ref wS), .val (.int (0 : Int32)), .val (.int (1 : Int32)), .val (.ref b110), .unset]) rfl kt_) ?_
          refine own_by (T' := T116) (g' := (mkF m 126 #[.val (.int p0), .val (.int p1), .val (.int p2), .val (.int ((p2 &&& (2147483647 : Int32)) % (6 : Int32))), .val (.ref wS), .val (.int (0 : Int32)), .val (.int (1 : Int32)), .val (.ref b110), .unset] [(.ref b110)])) (fun _ kt_ => XS.aload X116.here hx rfl (hb hby at_124) rfl rfl kt_) ?_
          refine own_by (T' := T116) (g' := (mkF m 128 #[.val (.int p0), .val (.int p1), .val (.int p2), .val (.int ((p2 &&& (2147483647 : Int32)) % (6 : Int32))), .val (.ref wS), .val (.int (0 : Int32)), .val (.int (1 : Int32)), .val (.ref b110), .unset] [(.ref wS), (.ref b110)])) (fun _ kt_ => XS.aload X116.here hx rfl (hb hby at_126) rfl rfl kt_) ?_
          have f120 := GS.2.2.2.2.2.2.2.2.2.2.2.2.2.1.ext oo118.2
          have f121 := GS.2.2.2.2.2.2.2.2.2.2.2.2.2.2.1.ext oo118.2
          have f122 := GS.2.2.2.2.2.2.2.2.2.2.2.2.2.2.2.1.ext oo118.2
          have f124 : Exa Z T116.heap b110 "com/example/redoubt/redoubt/core/Cell" := (A110.keep K116)
          obtain ⟨cq123, kq123, q123a, q123b, q123c⟩ := isOf hZ rfl f124
          obtain ⟨_, _, ⟨T123, L123, k123, n123⟩, -, X123, ⟨Lc123, hQ123, l123, y123, z123⟩, st123⟩ := X116.virtualBack hx (y := (⟨"com/example/redoubt/redoubt/core/Cell", "step", "(Lcom/example/redoubt/redoubt/core/Direction;)Lcom/example/redoubt/redoubt/core/Cell;"⟩ : MethodName)) (z := (⟨"com/example/redoubt/redoubt/core/Cell", "step", "(Lcom/example/redoubt/redoubt/core/Direction;)Lcom/example/redoubt/redoubt/core/Cell;"⟩ : MethodName)) hown (mvT hZ (hw _ (List.mem_of_getElem? (i := 22) rfl))) (mvT hZ (hw _ (List.mem_of_getElem? (i := 23) rfl))) (notFace_of_selects (args := #[]) (mvT hZ (hw _ (List.mem_of_getElem? (i := 25) rfl)))) (mvT hZ (hw _ (List.mem_of_getElem? (i := 25) rfl))) (mvT hZ (hw _ (List.mem_of_getElem? (i := 24) rfl))) (by decide) (backOf (W := 0) (rmStep l Z a0 hw [] wN wNE wSE wS wSW wNW GS b110 wS p0 p1 (0 : Int32) (1 : Int32) T116.heap n0 (by omega) oo118 p116_0 p116_1 f120 f121 f122) hZ (hw _ (List.mem_of_getElem? (i := 26) rfl)) (hw _ (List.mem_of_getElem? (i := 6) rfl)) (by decide) (by decide)) q123a q123c (g := (mkF m 128 #[.val (.int p0), .val (.int p1), .val (.int p2), .val (.int ((p2 &&& (2147483647 : Int32)) % (6 : Int32))), .val (.ref wS), .val (.int (0 : Int32)), .val (.int (1 : Int32)), .val (.ref b110), .unset] [(.ref wS), (.ref b110)])) rfl (by rw [hml]; rfl) (Steps.refl _) (argsL := [(.ref wS)]) (rest := []) (lenOf own_pd_3 rfl) rfl (by show 2 * 0 + _ ≤ _; exact Nat.le_of_eq rfl) (hb hby at_128) (fun _ _ => ⟨rfl, rfl, (by decide : 1 + 1 ≤ _), (by decide : 2 + 2 ≤ _)⟩)
          dsimp only [Pt.U, Pt.locs, Pt.cells, Pt.slots] at X123 l123 y123 z123 st123 hQ123
          subst l123 y123 z123
          obtain ⟨b_125, rfl, N123q, K123, p123_0, p123_1, p123_2, p123_3⟩ := hQ123
          have N126 := Fr.app N117 N123q
          have gb_125 : T116.heap.size ≤ b_125 := p123_0
          have zzK123 : T116.heap.size ≤ T123.heap.size := K123.1
          have oo127 : Old Z n0 T123.heap := oo118.keep K123 all0
          have kt128 : Keep h0 T123.heap [] := kt119.trans K123 all0
          refine own_by (T' := T123) (g' := (mkF m 131 #[.val (.int p0), .val (.int p1), .val (.int p2), .val (.int ((p2 &&& (2147483647 : Int32)) % (6 : Int32))), .val (.ref wS), .val (.int (0 : Int32)), .val (.int (1 : Int32)), .val (.ref b110), .unset] [(.ref b_125)])) (fun _ kt_ => st123.trans kt_) ?_
          refine own_by (T' := T123) (g' := (mkF m 133 #[.val (.int p0), .val (.int p1), .val (.int p2), .val (.int ((p2 &&& (2147483647 : Int32)) % (6 : Int32))), .val (.ref wS), .val (.int (0 : Int32)), .val (.int (1 : Int32)), .val (.ref b110), .val (.ref b_125)] [])) (fun _ kt_ => XS.astore X123.here hx rfl (hb hby at_131) rfl rfl (l' := #[.val (.int p0), .val (.int p1), .val (.int p2), .val (.int ((p2 &&& (2147483647 : Int32)) % (6 : Int32))), .val (.ref wS), .val (.int (0 : Int32)), .val (.int (1 : Int32)), .val (.ref b110), .val (.ref b_125)]) rfl kt_) ?_
          refine own_by (T' := T123) (g' := (mkF m 135 #[.val (.int p0), .val (.int p1), .val (.int p2), .val (.int ((p2 &&& (2147483647 : Int32)) % (6 : Int32))), .val (.ref wS), .val (.int (0 : Int32)), .val (.int (1 : Int32)), .val (.ref b110), .val (.ref b_125)] [(.ref b_125)])) (fun _ kt_ => XS.aload X123.here hx rfl (hb hby at_133) rfl rfl kt_) ?_
          obtain ⟨cq129, kq129, q129a, q129b, q129c⟩ := isOf hZ rfl p123_1
          obtain ⟨_, _, ⟨T129, L129, k129, n129⟩, -, X129, ⟨Lc129, hQ129, l129, y129, z129⟩, st129⟩ := X123.virtualBack hx (y := (⟨"com/example/redoubt/redoubt/core/Cell", "q", "()I"⟩ : MethodName)) (z := (⟨"com/example/redoubt/redoubt/core/Cell", "q", "()I"⟩ : MethodName)) hown (mvT hZ (hw _ (List.mem_of_getElem? (i := 43) rfl))) (mvT hZ (hw _ (List.mem_of_getElem? (i := 44) rfl))) (notFace_of_selects (args := #[]) (mvT hZ (hw _ (List.mem_of_getElem? (i := 46) rfl)))) (mvT hZ (hw _ (List.mem_of_getElem? (i := 46) rfl))) (mvT hZ (hw _ (List.mem_of_getElem? (i := 45) rfl))) (by decide) (backOf (W := 0) (rmQ l Z a0 hw [] wN wNE wSE wS wSW wNW GS b_125 (p0 + (0 : Int32)) T123.heap n0 (by omega) oo127 p123_2) hZ (hw _ (List.mem_of_getElem? (i := 47) rfl)) (hw _ (List.mem_of_getElem? (i := 6) rfl)) (by decide) (by decide)) q129a q129c (g := (mkF m 135 #[.val (.int p0), .val (.int p1), .val (.int p2), .val (.int ((p2 &&& (2147483647 : Int32)) % (6 : Int32))), .val (.ref wS), .val (.int (0 : Int32)), .val (.int (1 : Int32)), .val (.ref b110), .val (.ref b_125)] [(.ref b_125)])) rfl (by rw [hml]; rfl) (Steps.refl _) (argsL := []) (rest := []) (lenOf own_pd_1 rfl) rfl (by show 2 * 0 + _ ≤ _; exact Nat.le_of_eq rfl) (hb hby at_135) (fun _ _ => ⟨rfl, rfl, (by decide : 2 + 0 ≤ _), (by decide : 4 + 0 ≤ _)⟩)
          dsimp only [Pt.U, Pt.locs, Pt.cells, Pt.slots] at X129 l129 y129 z129 st129 hQ129
          subst l129 y129 z129
          obtain ⟨rfl, N129q, e129⟩ := hQ129
          have N130 := Fr.app N126 N129q
          refine own_by (T' := T129) (g' := (mkF m 138 #[.val (.int p0), .val (.int p1), .val (.int p2), .val (.int ((p2 &&& (2147483647 : Int32)) % (6 : Int32))), .val (.ref wS), .val (.int (0 : Int32)), .val (.int (1 : Int32)), .val (.ref b110), .val (.ref b_125)] [(.int (p0 + (0 : Int32)))])) (fun _ kt_ => st129.trans kt_) ?_
          refine own_by (T' := T129) (g' := (mkF m 139 #[.val (.int p0), .val (.int p1), .val (.int p2), .val (.int ((p2 &&& (2147483647 : Int32)) % (6 : Int32))), .val (.ref wS), .val (.int (0 : Int32)), .val (.int (1 : Int32)), .val (.ref b110), .val (.ref b_125)] [(.int p0), (.int (p0 + (0 : Int32)))])) (fun _ kt_ => XS.iloadN X129.here hx rfl (hb hby at_138) rfl kt_) ?_
          refine own_by (T' := T129) (g' := (mkF m 141 #[.val (.int p0), .val (.int p1), .val (.int p2), .val (.int ((p2 &&& (2147483647 : Int32)) % (6 : Int32))), .val (.ref wS), .val (.int (0 : Int32)), .val (.int (1 : Int32)), .val (.ref b110), .val (.ref b_125)] [(.int (0 : Int32)), (.int p0), (.int (p0 + (0 : Int32)))])) (fun _ kt_ => XS.iload X129.here hx rfl (hb hby at_139) rfl kt_) ?_
          refine own_by (T' := T129) (g' := (mkF m 142 #[.val (.int p0), .val (.int p1), .val (.int p2), .val (.int ((p2 &&& (2147483647 : Int32)) % (6 : Int32))), .val (.ref wS), .val (.int (0 : Int32)), .val (.int (1 : Int32)), .val (.ref b110), .val (.ref b_125)] [(.int (p0 + (0 : Int32))), (.int (p0 + (0 : Int32)))])) (fun _ kt_ => XS.iadd X129.here hx rfl (hb hby at_141) rfl kt_) ?_
          refine own_by (T' := T129) (g' := (mkF m 145 #[.val (.int p0), .val (.int p1), .val (.int p2), .val (.int ((p2 &&& (2147483647 : Int32)) % (6 : Int32))), .val (.ref wS), .val (.int (0 : Int32)), .val (.int (1 : Int32)), .val (.ref b110), .val (.ref b_125)] [])) (fun _ kt_ => XS.icmpNo X129.here hx rfl (hb hby at_142) rfl (XT.ii_ne_f (rfl : (p0 + (0 : Int32)) = (p0 + (0 : Int32)))) kt_) ?_
          refine own_by (T' := T129) (g' := (mkF m 147 #[.val (.int p0), .val (.int p1), .val (.int p2), .val (.int ((p2 &&& (2147483647 : Int32)) % (6 : Int32))), .val (.ref wS), .val (.int (0 : Int32)), .val (.int (1 : Int32)), .val (.ref b110), .val (.ref b_125)] [(.ref b_125)])) (fun _ kt_ => XS.aload X129.here hx rfl (hb hby at_145) rfl rfl kt_) ?_
          obtain ⟨cq131, kq131, q131a, q131b, q131c⟩ := isOf hZ e129 p123_1
          obtain ⟨_, _, ⟨T131, L131, k131, n131⟩, -, X131, ⟨Lc131, hQ131, l131, y131, z131⟩, st131⟩ := X129.virtualBack hx (y := (⟨"com/example/redoubt/redoubt/core/Cell", "r", "()I"⟩ : MethodName)) (z := (⟨"com/example/redoubt/redoubt/core/Cell", "r", "()I"⟩ : MethodName)) hown (mvT hZ (hw _ (List.mem_of_getElem? (i := 48) rfl))) (mvT hZ (hw _ (List.mem_of_getElem? (i := 49) rfl))) (notFace_of_selects (args := #[]) (mvT hZ (hw _ (List.mem_of_getElem? (i := 51) rfl)))) (mvT hZ (hw _ (List.mem_of_getElem? (i := 51) rfl))) (mvT hZ (hw _ (List.mem_of_getElem? (i := 50) rfl))) (by decide) (backOf (W := 0) (rmR l Z a0 hw [] wN wNE wSE wS wSW wNW GS b_125 (p1 + (1 : Int32)) T123.heap n0 (by omega) oo127 p123_3) hZ (hw _ (List.mem_of_getElem? (i := 52) rfl)) (hw _ (List.mem_of_getElem? (i := 6) rfl)) (by decide) (by decide)) q131a q131c (g := (mkF m 147 #[.val (.int p0), .val (.int p1), .val (.int p2), .val (.int ((p2 &&& (2147483647 : Int32)) % (6 : Int32))), .val (.ref wS), .val (.int (0 : Int32)), .val (.int (1 : Int32)), .val (.ref b110), .val (.ref b_125)] [(.ref b_125)])) rfl (by rw [hml]; rfl) (Steps.refl _) (argsL := []) (rest := []) (lenOf own_pd_1 rfl) rfl (by show 2 * 0 + _ ≤ _; exact Nat.le_of_eq rfl) (hb hby at_147) (fun _ _ => ⟨rfl, e129, (by decide : 2 + 0 ≤ _), (by decide : 4 + 0 ≤ _)⟩)
          dsimp only [Pt.U, Pt.locs, Pt.cells, Pt.slots] at X131 l131 y131 z131 st131 hQ131
          subst l131 y131 z131
          obtain ⟨rfl, N131q, e131⟩ := hQ131
          have N132 := Fr.app N130 N131q
          refine own_by (T' := T131) (g' := (mkF m 150 #[.val (.int p0), .val (.int p1), .val (.int p2), .val (.int ((p2 &&& (2147483647 : Int32)) % (6 : Int32))), .val (.ref wS), .val (.int (0 : Int32)), .val (.int (1 : Int32)), .val (.ref b110), .val (.ref b_125)] [(.int (p1 + (1 : Int32)))])) (fun _ kt_ => st131.trans kt_) ?_
          refine own_by (T' := T131) (g' := (mkF m 151 #[.val (.int p0), .val (.int p1), .val (.int p2), .val (.int ((p2 &&& (2147483647 : Int32)) % (6 : Int32))), .val (.ref wS), .val (.int (0 : Int32)), .val (.int (1 : Int32)), .val (.ref b110), .val (.ref b_125)] [(.int p1), (.int (p1 + (1 : Int32)))])) (fun _ kt_ => XS.iloadN X131.here hx rfl (hb hby at_150) rfl kt_) ?_
          refine own_by (T' := T131) (g' := (mkF m 153 #[.val (.int p0), .val (.int p1), .val (.int p2), .val (.int ((p2 &&& (2147483647 : Int32)) % (6 : Int32))), .val (.ref wS), .val (.int (0 : Int32)), .val (.int (1 : Int32)), .val (.ref b110), .val (.ref b_125)] [(.int (1 : Int32)), (.int p1), (.int (p1 + (1 : Int32)))])) (fun _ kt_ => XS.iload X131.here hx rfl (hb hby at_151) rfl kt_) ?_
          refine own_by (T' := T131) (g' := (mkF m 154 #[.val (.int p0), .val (.int p1), .val (.int p2), .val (.int ((p2 &&& (2147483647 : Int32)) % (6 : Int32))), .val (.ref wS), .val (.int (0 : Int32)), .val (.int (1 : Int32)), .val (.ref b110), .val (.ref b_125)] [(.int (p1 + (1 : Int32))), (.int (p1 + (1 : Int32)))])) (fun _ kt_ => XS.iadd X131.here hx rfl (hb hby at_153) rfl kt_) ?_
          refine own_by (T' := T131) (g' := (mkF m 157 #[.val (.int p0), .val (.int p1), .val (.int p2), .val (.int ((p2 &&& (2147483647 : Int32)) % (6 : Int32))), .val (.ref wS), .val (.int (0 : Int32)), .val (.int (1 : Int32)), .val (.ref b110), .val (.ref b_125)] [])) (fun _ kt_ => XS.icmpNo X131.here hx rfl (hb hby at_154) rfl (XT.ii_ne_f (rfl : (p1 + (1 : Int32)) = (p1 + (1 : Int32)))) kt_) ?_
          refine own_by (T' := T131) (g' := (mkF m 159 #[.val (.int p0), .val (.int p1), .val (.int p2), .val (.int ((p2 &&& (2147483647 : Int32)) % (6 : Int32))), .val (.ref wS), .val (.int (0 : Int32)), .val (.int (1 : Int32)), .val (.ref b110), .val (.ref b_125)] [(.ref b110)])) (fun _ kt_ => XS.aload X131.here hx rfl (hb hby at_157) rfl rfl kt_) ?_
          have f133 : Fld Z T123.heap b110 "com/example/redoubt/redoubt/core/Cell" "q" "I" (.int p0) := (p116_0.keep K123 nin0)
          have f135 : Exa Z T123.heap b110 "com/example/redoubt/redoubt/core/Cell" := (f124.keep K123)
          obtain ⟨cq134, kq134, q134a, q134b, q134c⟩ := isOf hZ e131 f135
          obtain ⟨_, _, ⟨T134, L134, k134, n134⟩, -, X134, ⟨Lc134, hQ134, l134, y134, z134⟩, st134⟩ := X131.virtualBack hx (y := (⟨"com/example/redoubt/redoubt/core/Cell", "q", "()I"⟩ : MethodName)) (z := (⟨"com/example/redoubt/redoubt/core/Cell", "q", "()I"⟩ : MethodName)) hown (mvT hZ (hw _ (List.mem_of_getElem? (i := 43) rfl))) (mvT hZ (hw _ (List.mem_of_getElem? (i := 44) rfl))) (notFace_of_selects (args := #[]) (mvT hZ (hw _ (List.mem_of_getElem? (i := 46) rfl)))) (mvT hZ (hw _ (List.mem_of_getElem? (i := 46) rfl))) (mvT hZ (hw _ (List.mem_of_getElem? (i := 45) rfl))) (by decide) (backOf (W := 0) (rmQ l Z a0 hw [] wN wNE wSE wS wSW wNW GS b110 p0 T123.heap n0 (by omega) oo127 f133) hZ (hw _ (List.mem_of_getElem? (i := 47) rfl)) (hw _ (List.mem_of_getElem? (i := 6) rfl)) (by decide) (by decide)) q134a q134c (g := (mkF m 159 #[.val (.int p0), .val (.int p1), .val (.int p2), .val (.int ((p2 &&& (2147483647 : Int32)) % (6 : Int32))), .val (.ref wS), .val (.int (0 : Int32)), .val (.int (1 : Int32)), .val (.ref b110), .val (.ref b_125)] [(.ref b110)])) rfl (by rw [hml]; rfl) (Steps.refl _) (argsL := []) (rest := []) (lenOf own_pd_1 rfl) rfl (by show 2 * 0 + _ ≤ _; exact Nat.le_of_eq rfl) (hb hby at_159) (fun _ _ => ⟨rfl, e131, (by decide : 2 + 0 ≤ _), (by decide : 4 + 0 ≤ _)⟩)
          dsimp only [Pt.U, Pt.locs, Pt.cells, Pt.slots] at X134 l134 y134 z134 st134 hQ134
          subst l134 y134 z134
          obtain ⟨rfl, N134q, e134⟩ := hQ134
          have N136 := Fr.app N132 N134q
          refine own_by (T' := T134) (g' := (mkF m 162 #[.val (.int p0), .val (.int p1), .val (.int p2), .val (.int ((p2 &&& (2147483647 : Int32)) % (6 : Int32))), .val (.ref wS), .val (.int (0 : Int32)), .val (.int (1 : Int32)), .val (.ref b110), .val (.ref b_125)] [(.int p0)])) (fun _ kt_ => st134.trans kt_) ?_
          refine own_by (T' := T134) (g' := (mkF m 163 #[.val (.int p0), .val (.int p1), .val (.int p2), .val (.int ((p2 &&& (2147483647 : Int32)) % (6 : Int32))), .val (.ref wS), .val (.int (0 : Int32)), .val (.int (1 : Int32)), .val (.ref b110), .val (.ref b_125)] [(.int p0), (.int p0)])) (fun _ kt_ => XS.iloadN X134.here hx rfl (hb hby at_162) rfl kt_) ?_
          refine own_by (T' := T134) (g' := (mkF m 166 #[.val (.int p0), .val (.int p1), .val (.int p2), .val (.int ((p2 &&& (2147483647 : Int32)) % (6 : Int32))), .val (.ref wS), .val (.int (0 : Int32)), .val (.int (1 : Int32)), .val (.ref b110), .val (.ref b_125)] [])) (fun _ kt_ => XS.icmpNo X134.here hx rfl (hb hby at_163) rfl (XT.ii_ne_f (rfl : p0 = p0)) kt_) ?_
          refine own_by (T' := T134) (g' := (mkF m 168 #[.val (.int p0), .val (.int p1), .val (.int p2), .val (.int ((p2 &&& (2147483647 : Int32)) % (6 : Int32))), .val (.ref wS), .val (.int (0 : Int32)), .val (.int (1 : Int32)), .val (.ref b110), .val (.ref b_125)] [(.ref b110)])) (fun _ kt_ => XS.aload X134.here hx rfl (hb hby at_166) rfl rfl kt_) ?_
          have f137 : Fld Z T123.heap b110 "com/example/redoubt/redoubt/core/Cell" "r" "I" (.int p1) := (p116_1.keep K123 nin0)
          obtain ⟨cq138, kq138, q138a, q138b, q138c⟩ := isOf hZ e134 f135
          obtain ⟨_, _, ⟨T138, L138, k138, n138⟩, -, X138, ⟨Lc138, hQ138, l138, y138, z138⟩, st138⟩ := X134.virtualBack hx (y := (⟨"com/example/redoubt/redoubt/core/Cell", "r", "()I"⟩ : MethodName)) (z := (⟨"com/example/redoubt/redoubt/core/Cell", "r", "()I"⟩ : MethodName)) hown (mvT hZ (hw _ (List.mem_of_getElem? (i := 48) rfl))) (mvT hZ (hw _ (List.mem_of_getElem? (i := 49) rfl))) (notFace_of_selects (args := #[]) (mvT hZ (hw _ (List.mem_of_getElem? (i := 51) rfl)))) (mvT hZ (hw _ (List.mem_of_getElem? (i := 51) rfl))) (mvT hZ (hw _ (List.mem_of_getElem? (i := 50) rfl))) (by decide) (backOf (W := 0) (rmR l Z a0 hw [] wN wNE wSE wS wSW wNW GS b110 p1 T123.heap n0 (by omega) oo127 f137) hZ (hw _ (List.mem_of_getElem? (i := 52) rfl)) (hw _ (List.mem_of_getElem? (i := 6) rfl)) (by decide) (by decide)) q138a q138c (g := (mkF m 168 #[.val (.int p0), .val (.int p1), .val (.int p2), .val (.int ((p2 &&& (2147483647 : Int32)) % (6 : Int32))), .val (.ref wS), .val (.int (0 : Int32)), .val (.int (1 : Int32)), .val (.ref b110), .val (.ref b_125)] [(.ref b110)])) rfl (by rw [hml]; rfl) (Steps.refl _) (argsL := []) (rest := []) (lenOf own_pd_1 rfl) rfl (by show 2 * 0 + _ ≤ _; exact Nat.le_of_eq rfl) (hb hby at_168) (fun _ _ => ⟨rfl, e134, (by decide : 2 + 0 ≤ _), (by decide : 4 + 0 ≤ _)⟩)
          dsimp only [Pt.U, Pt.locs, Pt.cells, Pt.slots] at X138 l138 y138 z138 st138 hQ138
          subst l138 y138 z138
          obtain ⟨rfl, N138q, e138⟩ := hQ138
          have N139 := Fr.app N136 N138q
          refine own_by (T' := T138) (g' := (mkF m 171 #[.val (.int p0), .val (.int p1), .val (.int p2), .val (.int ((p2 &&& (2147483647 : Int32)) % (6 : Int32))), .val (.ref wS), .val (.int (0 : Int32)), .val (.int (1 : Int32)), .val (.ref b110), .val (.ref b_125)] [(.int p1)])) (fun _ kt_ => st138.trans kt_) ?_
          refine own_by (T' := T138) (g' := (mkF m 172 #[.val (.int p0), .val (.int p1), .val (.int p2), .val (.int ((p2 &&& (2147483647 : Int32)) % (6 : Int32))), .val (.ref wS), .val (.int (0 : Int32)), .val (.int (1 : Int32)), .val (.ref b110), .val (.ref b_125)] [(.int p1), (.int p1)])) (fun _ kt_ => XS.iloadN X138.here hx rfl (hb hby at_171) rfl kt_) ?_
          refine own_by (T' := T138) (g' := (mkF m 175 #[.val (.int p0), .val (.int p1), .val (.int p2), .val (.int ((p2 &&& (2147483647 : Int32)) % (6 : Int32))), .val (.ref wS), .val (.int (0 : Int32)), .val (.int (1 : Int32)), .val (.ref b110), .val (.ref b_125)] [])) (fun _ kt_ => XS.icmpNo X138.here hx rfl (hb hby at_172) rfl (XT.ii_ne_f (rfl : p1 = p1)) kt_) ?_
          refine own_by (T' := T138) (g' := (mkF m 176 #[.val (.int p0), .val (.int p1), .val (.int p2), .val (.int ((p2 &&& (2147483647 : Int32)) % (6 : Int32))), .val (.ref wS), .val (.int (0 : Int32)), .val (.int (1 : Int32)), .val (.ref b110), .val (.ref b_125)] [(.int (1 : Int32))])) (fun _ kt_ => XS.iconst X138.here hx rfl (hb hby at_175) kt_) ?_
          refine own_by (T' := T138) (g' := (mkF m 180 #[.val (.int p0), .val (.int p1), .val (.int p2), .val (.int ((p2 &&& (2147483647 : Int32)) % (6 : Int32))), .val (.ref wS), .val (.int (0 : Int32)), .val (.int (1 : Int32)), .val (.ref b110), .val (.ref b_125)] [(.int (1 : Int32))])) (fun _ kt_ => XS.goto X138.here hx rfl (pc0 := 176) (pc' := 180) rfl (hb hby at_176) (by decide) (by decide) kt_) ?_
          have hn140 : nar .boolean (1 : Int32) = (1 : Int32) := rfl
          obtain ⟨fs141, hr141, hrun141, hended141, hW141, hsame141⟩ := X138.leave (v := some (.int (nar .boolean (1 : Int32)))) (fun h => by rw [Bd.returns] at h; cases h)
          refine ⟨_, _, retN X138 hx (t := .boolean) Bd.returns (by simp) (hb hby at_180) hr141, hrun141, hended141, _, _, rfl, ?_, ⟨_, rfl⟩, hW141, hsame141.mono (by decide) (by decide)⟩
          show Q_rm0 Z wN wNE wSE wS wSW wNW p0 p1 p2 h0 n0 _ T138.heap _
          exact ⟨(congrArg (fun z => some (Value.int z)) hn140), N139⟩
        · refine own_by (T' := s₁) (g' := (mkF m 83 #[.val (.int p0), .val (.int p1), .val (.int p2), .val (.int ((p2 &&& (2147483647 : Int32)) % (6 : Int32))), .unset, .unset, .unset, .unset, .unset] [])) (fun _ kt_ => XS.icmpYes X0.here hx rfl (pc0 := 66) (pc' := 83) rfl (hb hby at_66) rfl (XT.ii_ne_t hc107) (by decide) (by decide) kt_) ?_
          refine own_by (T' := s₁) (g' := (mkF m 84 #[.val (.int p0), .val (.int p1), .val (.int p2), .val (.int ((p2 &&& (2147483647 : Int32)) % (6 : Int32))), .unset, .unset, .unset, .unset, .unset] [(.int ((p2 &&& (2147483647 : Int32)) % (6 : Int32)))])) (fun _ kt_ => XS.iloadN X0.here hx rfl (hb hby at_83) rfl kt_) ?_
          refine own_by (T' := s₁) (g' := (mkF m 85 #[.val (.int p0), .val (.int p1), .val (.int p2), .val (.int ((p2 &&& (2147483647 : Int32)) % (6 : Int32))), .unset, .unset, .unset, .unset, .unset] [(.int (4 : Int32)), (.int ((p2 &&& (2147483647 : Int32)) % (6 : Int32)))])) (fun _ kt_ => XS.iconst X0.here hx rfl (hb hby at_84) kt_) ?_
          by_cases hc142 : ((p2 &&& (2147483647 : Int32)) % (6 : Int32)) = (4 : Int32)
          · refine own_by (T' := s₁) (g' := (mkF m 88 #[.val (.int p0), .val (.int p1), .val (.int p2), .val (.int ((p2 &&& (2147483647 : Int32)) % (6 : Int32))), .unset, .unset, .unset, .unset, .unset] [])) (fun _ kt_ => XS.icmpNo X0.here hx rfl (hb hby at_85) rfl (XT.ii_ne_f hc142) kt_) ?_
            have f143 := GS.2.2.2.2.2.2.2.2.2.2.2.2.2.2.2.2.1.ext O0.2
            obtain ⟨T144, X144, e144, st144⟩ := getS2 X0 hx hZ hown (host := "") (Or.inl (hw _ (List.mem_of_getElem? (i := 61) rfl))) Via.refl e0 f143 (g := (mkF m 88 #[.val (.int p0), .val (.int p1), .val (.int p2), .val (.int ((p2 &&& (2147483647 : Int32)) % (6 : Int32))), .unset, .unset, .unset, .unset, .unset] [])) rfl (hb hby at_88)
            refine own_by (T' := T144) (g' := (mkF m 91 #[.val (.int p0), .val (.int p1), .val (.int p2), .val (.int ((p2 &&& (2147483647 : Int32)) % (6 : Int32))), .unset, .unset, .unset, .unset, .unset] [(.ref wSW)])) st144 ?_
            refine own_by (T' := T144) (g' := (mkF m 93 #[.val (.int p0), .val (.int p1), .val (.int p2), .val (.int ((p2 &&& (2147483647 : Int32)) % (6 : Int32))), .val (.ref wSW), .unset, .unset, .unset, .unset] [])) (fun _ kt_ => XS.astore X144.here hx rfl (hb hby at_91) rfl rfl (l' := #[.val (.int p0), .val (.int p1), .val (.int p2), .val (.int ((p2 &&& (2147483647 : Int32)) % (6 : Int32))), .val (.ref wSW), .unset, .unset, .unset, .unset]) rfl kt_) ?_
            refine own_by (T' := T144) (g' := (mkF m 94 #[.val (.int p0), .val (.int p1), .val (.int p2), .val (.int ((p2 &&& (2147483647 : Int32)) % (6 : Int32))), .val (.ref wSW), .unset, .unset, .unset, .unset] [(.int (-1 : Int32))])) (fun _ kt_ => XS.iconst X144.here hx rfl (hb hby at_93) kt_) ?_
            refine own_by (T' := T144) (g' := (mkF m 96 #[.val (.int p0), .val (.int p1), .val (.int p2), .val (.int ((p2 &&& (2147483647 : Int32)) % (6 : Int32))), .val (.ref wSW), .val (.int (-1 : Int32)), .unset, .unset, .unset] [])) (fun _ kt_ => XS.istore X144.here hx rfl (hb hby at_94) rfl (l' := #[.val (.int p0), .val (.int p1), .val (.int p2), .val (.int ((p2 &&& (2147483647 : Int32)) % (6 : Int32))), .val (.ref wSW), .val (.int (-1 : Int32)), .unset, .unset, .unset]) rfl kt_) ?_
            refine own_by (T' := T144) (g' := (mkF m 97 #[.val (.int p0), .val (.int p1), .val (.int p2), .val (.int ((p2 &&& (2147483647 : Int32)) % (6 : Int32))), .val (.ref wSW), .val (.int (-1 : Int32)), .unset, .unset, .unset] [(.int (1 : Int32))])) (fun _ kt_ => XS.iconst X144.here hx rfl (hb hby at_96) kt_) ?_
            refine own_by (T' := T144) (g' := (mkF m 99 #[.val (.int p0), .val (.int p1), .val (.int p2), .val (.int ((p2 &&& (2147483647 : Int32)) % (6 : Int32))), .val (.ref wSW), .val (.int (-1 : Int32)), .val (.int (1 : Int32)), .unset, .unset] [])) (fun _ kt_ => XS.istore X144.here hx rfl (hb hby at_97) rfl (l' := #[.val (.int p0), .val (.int p1), .val (.int p2), .val (.int ((p2 &&& (2147483647 : Int32)) % (6 : Int32))), .val (.ref wSW), .val (.int (-1 : Int32)), .val (.int (1 : Int32)), .unset, .unset]) rfl kt_) ?_
            refine own_by (T' := T144) (g' := (mkF m 113 #[.val (.int p0), .val (.int p1), .val (.int p2), .val (.int ((p2 &&& (2147483647 : Int32)) % (6 : Int32))), .val (.ref wSW), .val (.int (-1 : Int32)), .val (.int (1 : Int32)), .unset, .unset] [])) (fun _ kt_ => XS.goto X144.here hx rfl (pc0 := 99) (pc' := 113) rfl (hb hby at_99) (by decide) (by decide) kt_) ?_
            obtain ⟨T145, h145, X145, e145, E145, A145, D145, -, st145⟩ := newO X144 hx hZ hown (hw _ (List.mem_of_getElem? (i := 4) rfl)) (hw _ (List.mem_of_getElem? (i := 5) rfl)) (hw _ (List.mem_of_getElem? (i := 6) rfl)) e144 (g := (mkF m 113 #[.val (.int p0), .val (.int p1), .val (.int p2), .val (.int ((p2 &&& (2147483647 : Int32)) % (6 : Int32))), .val (.ref wSW), .val (.int (-1 : Int32)), .val (.int (1 : Int32)), .unset, .unset] [])) rfl (hb hby at_113) (by decide) (by decide)
            obtain ⟨b145, g145⟩ : ∃ z, z = h0.size := ⟨_, rfl⟩
            rw [← g145] at A145 D145 st145
            have K146 : Keep h0 h145 [] := own_kext E145
            have zzK146 : h0.size ≤ h145.size := K146.1
            have oo147 : Old Z n0 h145 := O0.keep K146 all0
            have kt148 : Keep h0 h145 [] := KT0.trans K146 all0
            have lab145 := A145.lt
            have f149 : Fld Z h145 b145 "com/example/redoubt/redoubt/core/Cell" "q" "I" (.int (0 : Int32)) := D145 (Or.inr (hw _ (List.mem_of_getElem? (i := 19) rfl))) (ty := .int) (by decide)
            have f150 : Fld Z h145 b145 "com/example/redoubt/redoubt/core/Cell" "r" "I" (.int (0 : Int32)) := D145 (Or.inr (hw _ (List.mem_of_getElem? (i := 21) rfl))) (ty := .int) (by decide)
            refine own_by (T' := T145) (g' := (mkF m 116 #[.val (.int p0), .val (.int p1), .val (.int p2), .val (.int ((p2 &&& (2147483647 : Int32)) % (6 : Int32))), .val (.ref wSW), .val (.int (-1 : Int32)), .val (.int (1 : Int32)), .unset, .unset] [(.ref b145)])) st145 ?_
            refine own_by (T' := T145) (g' := (mkF m 117 #[.val (.int p0), .val (.int p1), .val (.int p2), .val (.int ((p2 &&& (2147483647 : Int32)) % (6 : Int32))), .val (.ref wSW), .val (.int (-1 : Int32)), .val (.int (1 : Int32)), .unset, .unset] [(.ref b145), (.ref b145)])) (fun _ kt_ => XS.dup X145.here hx rfl (hb hby at_116) rfl rfl kt_) ?_
            refine own_by (T' := T145) (g' := (mkF m 118 #[.val (.int p0), .val (.int p1), .val (.int p2), .val (.int ((p2 &&& (2147483647 : Int32)) % (6 : Int32))), .val (.ref wSW), .val (.int (-1 : Int32)), .val (.int (1 : Int32)), .unset, .unset] [(.int p0), (.ref b145), (.ref b145)])) (fun _ kt_ => XS.iloadN X145.here hx rfl (hb hby at_117) rfl kt_) ?_
            refine own_by (T' := T145) (g' := (mkF m 119 #[.val (.int p0), .val (.int p1), .val (.int p2), .val (.int ((p2 &&& (2147483647 : Int32)) % (6 : Int32))), .val (.ref wSW), .val (.int (-1 : Int32)), .val (.int (1 : Int32)), .unset, .unset] [(.int p1), (.int p0), (.ref b145), (.ref b145)])) (fun _ kt_ => XS.iloadN X145.here hx rfl (hb hby at_118) rfl kt_) ?_
            obtain ⟨_, _, ⟨T151, L151, k151, n151⟩, -, X151, ⟨Lc151, hQ151, l151, y151, z151⟩, st151⟩ := X145.specialBack hx (y := (⟨"com/example/redoubt/redoubt/core/Cell", "<init>", "(II)V"⟩ : MethodName)) rfl hown (mvT hZ (hw _ (List.mem_of_getElem? (i := 7) rfl))) (mvT hZ (hw _ (List.mem_of_getElem? (i := 8) rfl))) (mvT hZ (hw _ (List.mem_of_getElem? (i := 9) rfl))) (by decide) (backOf (W := 1) (rmIni l Z a0 hw [] wN wNE wSE wS wSW wNW GS b145 p0 p1 h145 n0 (by omega) oo147 A145 (by omega) f149 f150) hZ (hw _ (List.mem_of_getElem? (i := 9) rfl)) (hw _ (List.mem_of_getElem? (i := 6) rfl)) (by decide) (by decide)) (g := (mkF m 119 #[.val (.int p0), .val (.int p1), .val (.int p2), .val (.int ((p2 &&& (2147483647 : Int32)) % (6 : Int32))), .val (.ref wSW), .val (.int (-1 : Int32)), .val (.int (1 : Int32)), .unset, .unset] [(.int p1), (.int p0), (.ref b145), (.ref b145)])) rfl (by rw [hml]; rfl) (Steps.refl _) (a := b145) (argsL := [(.int p0), (.int p1)]) (rest := [(.ref b145)]) (lenOf own_pd_2 rfl) rfl (by show 2 * 0 + _ ≤ _; exact Nat.le_of_eq rfl) (hb hby at_119) (fun _ _ => ⟨rfl, e145, (by decide : 1 + 0 ≤ _), (by decide : 2 + 0 ≤ _)⟩)
            dsimp only [Pt.U, Pt.locs, Pt.cells, Pt.slots] at X151 l151 y151 z151 st151 hQ151
            subst l151 y151 z151
            obtain ⟨rfl, N151q, K151, p151_0, p151_1⟩ := hQ151
            have N152 := Fr.app N0 N151q
            have zzK151 : h145.size ≤ T151.heap.size := K151.1
            have oo153 : Old Z n0 T151.heap := oo147.keep K151 (allS (by omega : n0 ≤ b145) all0)
            have kt154 : Keep h0 T151.heap [] := kt148.trans K151 (allS (Or.inr (by omega : h0.size ≤ b145)) all0)
            refine own_by (T' := T151) (g' := (mkF m 122 #[.val (.int p0), .val (.int p1), .val (.int p2), .val (.int ((p2 &&& (2147483647 : Int32)) % (6 : Int32))), .val (.ref wSW), .val (.int (-1 : Int32)), .val (.int (1 : Int32)), .unset, .unset] [(.ref b145)])) (fun _ kt_ => st151.trans kt_) ?_
            refine own_by (T' := T151) (g' := (mkF m 124 #[.val (.int p0), .val (.int p1), .val (.int p2), .val (.int ((p2 &&& (2147483647 : Int32)) % (6 : Int32))), .val (.ref wSW), .val (.int (-1 : Int32)), .val (.int (1 : Int32)), .val (.ref b145), .unset] [])) (fun _ kt_ => XS.astore X151.here hx rfl (hb hby at_122) rfl rfl (l' := #[.val (.int p0), .val (.int p1), .val (.int p2), .val (.int ((p2 &&& (2147483647 : Int32)) % (6 : Int32))), .val (.ref wSW), .val (.int (-1 : Int32)), .val (.int (1 : Int32)), .val (.ref b145), .unset]) rfl kt_) ?_
            refine own_by (T' := T151) (g' := (mkF m 126 #[.val (.int p0), .val (.int p1), .val (.int p2), .val (.int ((p2 &&& (2147483647 : Int32)) % (6 : Int32))), .val (.ref wSW), .val (.int (-1 : Int32)), .val (.int (1 : Int32)), .val (.ref b145), .unset] [(.ref b145)])) (fun _ kt_ => XS.aload X151.here hx rfl (hb hby at_124) rfl rfl kt_) ?_
            refine own_by (T' := T151) (g' := (mkF m 128 #[.val (.int p0), .val (.int p1), .val (.int p2), .val (.int ((p2 &&& (2147483647 : Int32)) % (6 : Int32))), .val (.ref wSW), .val (.int (-1 : Int32)), .val (.int (1 : Int32)), .val (.ref b145), .unset] [(.ref wSW), (.ref b145)])) (fun _ kt_ => XS.aload X151.here hx rfl (hb hby at_126) rfl rfl kt_) ?_
            have f155 := GS.2.2.2.2.2.2.2.2.2.2.2.2.2.2.2.2.2.1.ext oo153.2
            have f156 := GS.2.2.2.2.2.2.2.2.2.2.2.2.2.2.2.2.2.2.1.ext oo153.2
            have f157 := GS.2.2.2.2.2.2.2.2.2.2.2.2.2.2.2.2.2.2.2.1.ext oo153.2
            have f159 : Exa Z T151.heap b145 "com/example/redoubt/redoubt/core/Cell" := (A145.keep K151)
            obtain ⟨cq158, kq158, q158a, q158b, q158c⟩ := isOf hZ rfl f159
            obtain ⟨_, _, ⟨T158, L158, k158, n158⟩, -, X158, ⟨Lc158, hQ158, l158, y158, z158⟩, st158⟩ := X151.virtualBack hx (y := (⟨"com/example/redoubt/redoubt/core/Cell", "step", "(Lcom/example/redoubt/redoubt/core/Direction;)Lcom/example/redoubt/redoubt/core/Cell;"⟩ : MethodName)) (z := (⟨"com/example/redoubt/redoubt/core/Cell", "step", "(Lcom/example/redoubt/redoubt/core/Direction;)Lcom/example/redoubt/redoubt/core/Cell;"⟩ : MethodName)) hown (mvT hZ (hw _ (List.mem_of_getElem? (i := 22) rfl))) (mvT hZ (hw _ (List.mem_of_getElem? (i := 23) rfl))) (notFace_of_selects (args := #[]) (mvT hZ (hw _ (List.mem_of_getElem? (i := 25) rfl)))) (mvT hZ (hw _ (List.mem_of_getElem? (i := 25) rfl))) (mvT hZ (hw _ (List.mem_of_getElem? (i := 24) rfl))) (by decide) (backOf (W := 0) (rmStep l Z a0 hw [] wN wNE wSE wS wSW wNW GS b145 wSW p0 p1 (-1 : Int32) (1 : Int32) T151.heap n0 (by omega) oo153 p151_0 p151_1 f155 f156 f157) hZ (hw _ (List.mem_of_getElem? (i := 26) rfl)) (hw _ (List.mem_of_getElem? (i := 6) rfl)) (by decide) (by decide)) q158a q158c (g := (mkF m 128 #[.val (.int p0), .val (.int p1), .val (.int p2), .val (.int ((p2 &&& (2147483647 : Int32)) % (6 : Int32))), .val (.ref wSW), .val (.int (-1 : Int32)), .val (.int (1 : Int32)), .val (.ref b145), .unset] [(.ref wSW), (.ref b145)])) rfl (by rw [hml]; rfl) (Steps.refl _) (argsL := [(.ref wSW)]) (rest := []) (lenOf own_pd_3 rfl) rfl (by show 2 * 0 + _ ≤ _; exact Nat.le_of_eq rfl) (hb hby at_128) (fun _ _ => ⟨rfl, rfl, (by decide : 1 + 1 ≤ _), (by decide : 2 + 2 ≤ _)⟩)
            dsimp only [Pt.U, Pt.locs, Pt.cells, Pt.slots] at X158 l158 y158 z158 st158 hQ158
            subst l158 y158 z158
            obtain ⟨b_160, rfl, N158q, K158, p158_0, p158_1, p158_2, p158_3⟩ := hQ158
            have N161 := Fr.app N152 N158q
            have gb_160 : T151.heap.size ≤ b_160 := p158_0
            have zzK158 : T151.heap.size ≤ T158.heap.size := K158.1
            have oo162 : Old Z n0 T158.heap := oo153.keep K158 all0
            have kt163 : Keep h0 T158.heap [] := kt154.trans K158 all0
            refine own_by (T' := T158) (g' := (mkF m 131 #[.val (.int p0), .val (.int p1), .val (.int p2), .val (.int ((p2 &&& (2147483647 : Int32)) % (6 : Int32))), .val (.ref wSW), .val (.int (-1 : Int32)), .val (.int (1 : Int32)), .val (.ref b145), .unset] [(.ref b_160)])) (fun _ kt_ => st158.trans kt_) ?_
            refine own_by (T' := T158) (g' := (mkF m 133 #[.val (.int p0), .val (.int p1), .val (.int p2), .val (.int ((p2 &&& (2147483647 : Int32)) % (6 : Int32))), .val (.ref wSW), .val (.int (-1 : Int32)), .val (.int (1 : Int32)), .val (.ref b145), .val (.ref b_160)] [])) (fun _ kt_ => XS.astore X158.here hx rfl (hb hby at_131) rfl rfl (l' := #[.val (.int p0), .val (.int p1), .val (.int p2), .val (.int ((p2 &&& (2147483647 : Int32)) % (6 : Int32))), .val (.ref wSW), .val (.int (-1 : Int32)), .val (.int (1 : Int32)), .val (.ref b145), .val (.ref b_160)]) rfl kt_) ?_
            refine own_by (T' := T158) (g' := (mkF m 135 #[.val (.int p0), .val (.int p1), .val (.int p2), .val (.int ((p2 &&& (2147483647 : Int32)) % (6 : Int32))), .val (.ref wSW), .val (.int (-1 : Int32)), .val (.int (1 : Int32)), .val (.ref b145), .val (.ref b_160)] [(.ref b_160)])) (fun _ kt_ => XS.aload X158.here hx rfl (hb hby at_133) rfl rfl kt_) ?_
            obtain ⟨cq164, kq164, q164a, q164b, q164c⟩ := isOf hZ rfl p158_1
            obtain ⟨_, _, ⟨T164, L164, k164, n164⟩, -, X164, ⟨Lc164, hQ164, l164, y164, z164⟩, st164⟩ := X158.virtualBack hx (y := (⟨"com/example/redoubt/redoubt/core/Cell", "q", "()I"⟩ : MethodName)) (z := (⟨"com/example/redoubt/redoubt/core/Cell", "q", "()I"⟩ : MethodName)) hown (mvT hZ (hw _ (List.mem_of_getElem? (i := 43) rfl))) (mvT hZ (hw _ (List.mem_of_getElem? (i := 44) rfl))) (notFace_of_selects (args := #[]) (mvT hZ (hw _ (List.mem_of_getElem? (i := 46) rfl)))) (mvT hZ (hw _ (List.mem_of_getElem? (i := 46) rfl))) (mvT hZ (hw _ (List.mem_of_getElem? (i := 45) rfl))) (by decide) (backOf (W := 0) (rmQ l Z a0 hw [] wN wNE wSE wS wSW wNW GS b_160 (p0 + (-1 : Int32)) T158.heap n0 (by omega) oo162 p158_2) hZ (hw _ (List.mem_of_getElem? (i := 47) rfl)) (hw _ (List.mem_of_getElem? (i := 6) rfl)) (by decide) (by decide)) q164a q164c (g := (mkF m 135 #[.val (.int p0), .val (.int p1), .val (.int p2), .val (.int ((p2 &&& (2147483647 : Int32)) % (6 : Int32))), .val (.ref wSW), .val (.int (-1 : Int32)), .val (.int (1 : Int32)), .val (.ref b145), .val (.ref b_160)] [(.ref b_160)])) rfl (by rw [hml]; rfl) (Steps.refl _) (argsL := []) (rest := []) (lenOf own_pd_1 rfl) rfl (by show 2 * 0 + _ ≤ _; exact Nat.le_of_eq rfl) (hb hby at_135) (fun _ _ => ⟨rfl, rfl, (by decide : 2 + 0 ≤ _), (by decide : 4 + 0 ≤ _)⟩)
            dsimp only [Pt.U, Pt.locs, Pt.cells, Pt.slots] at X164 l164 y164 z164 st164 hQ164
            subst l164 y164 z164
            obtain ⟨rfl, N164q, e164⟩ := hQ164
            have N165 := Fr.app N161 N164q
            refine own_by (T' := T164) (g' := (mkF m 138 #[.val (.int p0), .val (.int p1), .val (.int p2), .val (.int ((p2 &&& (2147483647 : Int32)) % (6 : Int32))), .val (.ref wSW), .val (.int (-1 : Int32)), .val (.int (1 : Int32)), .val (.ref b145), .val (.ref b_160)] [(.int (p0 + (-1 : Int32)))])) (fun _ kt_ => st164.trans kt_) ?_
            refine own_by (T' := T164) (g' := (mkF m 139 #[.val (.int p0), .val (.int p1), .val (.int p2), .val (.int ((p2 &&& (2147483647 : Int32)) % (6 : Int32))), .val (.ref wSW), .val (.int (-1 : Int32)), .val (.int (1 : Int32)), .val (.ref b145), .val (.ref b_160)] [(.int p0), (.int (p0 + (-1 : Int32)))])) (fun _ kt_ => XS.iloadN X164.here hx rfl (hb hby at_138) rfl kt_) ?_
            refine own_by (T' := T164) (g' := (mkF m 141 #[.val (.int p0), .val (.int p1), .val (.int p2), .val (.int ((p2 &&& (2147483647 : Int32)) % (6 : Int32))), .val (.ref wSW), .val (.int (-1 : Int32)), .val (.int (1 : Int32)), .val (.ref b145), .val (.ref b_160)] [(.int (-1 : Int32)), (.int p0), (.int (p0 + (-1 : Int32)))])) (fun _ kt_ => XS.iload X164.here hx rfl (hb hby at_139) rfl kt_) ?_
            refine own_by (T' := T164) (g' := (mkF m 142 #[.val (.int p0), .val (.int p1), .val (.int p2), .val (.int ((p2 &&& (2147483647 : Int32)) % (6 : Int32))), .val (.ref wSW), .val (.int (-1 : Int32)), .val (.int (1 : Int32)), .val (.ref b145), .val (.ref b_160)] [(.int (p0 + (-1 : Int32))), (.int (p0 + (-1 : Int32)))])) (fun _ kt_ => XS.iadd X164.here hx rfl (hb hby at_141) rfl kt_) ?_
            refine own_by (T' := T164) (g' := (mkF m 145 #[.val (.int p0), .val (.int p1), .val (.int p2), .val (.int ((p2 &&& (2147483647 : Int32)) % (6 : Int32))), .val (.ref wSW), .val (.int (-1 : Int32)), .val (.int (1 : Int32)), .val (.ref b145), .val (.ref b_160)] [])) (fun _ kt_ => XS.icmpNo X164.here hx rfl (hb hby at_142) rfl (XT.ii_ne_f (rfl : (p0 + (-1 : Int32)) = (p0 + (-1 : Int32)))) kt_) ?_
            refine own_by (T' := T164) (g' := (mkF m 147 #[.val (.int p0), .val (.int p1), .val (.int p2), .val (.int ((p2 &&& (2147483647 : Int32)) % (6 : Int32))), .val (.ref wSW), .val (.int (-1 : Int32)), .val (.int (1 : Int32)), .val (.ref b145), .val (.ref b_160)] [(.ref b_160)])) (fun _ kt_ => XS.aload X164.here hx rfl (hb hby at_145) rfl rfl kt_) ?_
            obtain ⟨cq166, kq166, q166a, q166b, q166c⟩ := isOf hZ e164 p158_1
            obtain ⟨_, _, ⟨T166, L166, k166, n166⟩, -, X166, ⟨Lc166, hQ166, l166, y166, z166⟩, st166⟩ := X164.virtualBack hx (y := (⟨"com/example/redoubt/redoubt/core/Cell", "r", "()I"⟩ : MethodName)) (z := (⟨"com/example/redoubt/redoubt/core/Cell", "r", "()I"⟩ : MethodName)) hown (mvT hZ (hw _ (List.mem_of_getElem? (i := 48) rfl))) (mvT hZ (hw _ (List.mem_of_getElem? (i := 49) rfl))) (notFace_of_selects (args := #[]) (mvT hZ (hw _ (List.mem_of_getElem? (i := 51) rfl)))) (mvT hZ (hw _ (List.mem_of_getElem? (i := 51) rfl))) (mvT hZ (hw _ (List.mem_of_getElem? (i := 50) rfl))) (by decide) (backOf (W := 0) (rmR l Z a0 hw [] wN wNE wSE wS wSW wNW GS b_160 (p1 + (1 : Int32)) T158.heap n0 (by omega) oo162 p158_3) hZ (hw _ (List.mem_of_getElem? (i := 52) rfl)) (hw _ (List.mem_of_getElem? (i := 6) rfl)) (by decide) (by decide)) q166a q166c (g := (mkF m 147 #[.val (.int p0), .val (.int p1), .val (.int p2), .val (.int ((p2 &&& (2147483647 : Int32)) % (6 : Int32))), .val (.ref wSW), .val (.int (-1 : Int32)), .val (.int (1 : Int32)), .val (.ref b145), .val (.ref b_160)] [(.ref b_160)])) rfl (by rw [hml]; rfl) (Steps.refl _) (argsL := []) (rest := []) (lenOf own_pd_1 rfl) rfl (by show 2 * 0 + _ ≤ _; exact Nat.le_of_eq rfl) (hb hby at_147) (fun _ _ => ⟨rfl, e164, (by decide : 2 + 0 ≤ _), (by decide : 4 + 0 ≤ _)⟩)
            dsimp only [Pt.U, Pt.locs, Pt.cells, Pt.slots] at X166 l166 y166 z166 st166 hQ166
            subst l166 y166 z166
            obtain ⟨rfl, N166q, e166⟩ := hQ166
            have N167 := Fr.app N165 N166q
            refine own_by (T' := T166) (g' := (mkF m 150 #[.val (.int p0), .val (.int p1), .val (.int p2), .val (.int ((p2 &&& (2147483647 : Int32)) % (6 : Int32))), .val (.ref wSW), .val (.int (-1 : Int32)), .val (.int (1 : Int32)), .val (.ref b145), .val (.ref b_160)] [(.int (p1 + (1 : Int32)))])) (fun _ kt_ => st166.trans kt_) ?_
            refine own_by (T' := T166) (g' := (mkF m 151 #[.val (.int p0), .val (.int p1), .val (.int p2), .val (.int ((p2 &&& (2147483647 : Int32)) % (6 : Int32))), .val (.ref wSW), .val (.int (-1 : Int32)), .val (.int (1 : Int32)), .val (.ref b145), .val (.ref b_160)] [(.int p1), (.int (p1 + (1 : Int32)))])) (fun _ kt_ => XS.iloadN X166.here hx rfl (hb hby at_150) rfl kt_) ?_
            refine own_by (T' := T166) (g' := (mkF m 153 #[.val (.int p0), .val (.int p1), .val (.int p2), .val (.int ((p2 &&& (2147483647 : Int32)) % (6 : Int32))), .val (.ref wSW), .val (.int (-1 : Int32)), .val (.int (1 : Int32)), .val (.ref b145), .val (.ref b_160)] [(.int (1 : Int32)), (.int p1), (.int (p1 + (1 : Int32)))])) (fun _ kt_ => XS.iload X166.here hx rfl (hb hby at_151) rfl kt_) ?_
            refine own_by (T' := T166) (g' := (mkF m 154 #[.val (.int p0), .val (.int p1), .val (.int p2), .val (.int ((p2 &&& (2147483647 : Int32)) % (6 : Int32))), .val (.ref wSW), .val (.int (-1 : Int32)), .val (.int (1 : Int32)), .val (.ref b145), .val (.ref b_160)] [(.int (p1 + (1 : Int32))), (.int (p1 + (1 : Int32)))])) (fun _ kt_ => XS.iadd X166.here hx rfl (hb hby at_153) rfl kt_) ?_
            refine own_by (T' := T166) (g' := (mkF m 157 #[.val (.int p0), .val (.int p1), .val (.int p2), .val (.int ((p2 &&& (2147483647 : Int32)) % (6 : Int32))), .val (.ref wSW), .val (.int (-1 : Int32)), .val (.int (1 : Int32)), .val (.ref b145), .val (.ref b_160)] [])) (fun _ kt_ => XS.icmpNo X166.here hx rfl (hb hby at_154) rfl (XT.ii_ne_f (rfl : (p1 + (1 : Int32)) = (p1 + (1 : Int32)))) kt_) ?_
            refine own_by (T' := T166) (g' := (mkF m 159 #[.val (.int p0), .val (.int p1), .val (.int p2), .val (.int ((p2 &&& (2147483647 : Int32)) % (6 : Int32))), .val (.ref wSW), .val (.int (-1 : Int32)), .val (.int (1 : Int32)), .val (.ref b145), .val (.ref b_160)] [(.ref b145)])) (fun _ kt_ => XS.aload X166.here hx rfl (hb hby at_157) rfl rfl kt_) ?_
            have f168 : Fld Z T158.heap b145 "com/example/redoubt/redoubt/core/Cell" "q" "I" (.int p0) := (p151_0.keep K158 nin0)
            have f170 : Exa Z T158.heap b145 "com/example/redoubt/redoubt/core/Cell" := (f159.keep K158)
            obtain ⟨cq169, kq169, q169a, q169b, q169c⟩ := isOf hZ e166 f170
            obtain ⟨_, _, ⟨T169, L169, k169, n169⟩, -, X169, ⟨Lc169, hQ169, l169, y169, z169⟩, st169⟩ := X166.virtualBack hx (y := (⟨"com/example/redoubt/redoubt/core/Cell", "q", "()I"⟩ : MethodName)) (z := (⟨"com/example/redoubt/redoubt/core/Cell", "q", "()I"⟩ : MethodName)) hown (mvT hZ (hw _ (List.mem_of_getElem? (i := 43) rfl))) (mvT hZ (hw _ (List.mem_of_getElem? (i := 44) rfl))) (notFace_of_selects (args := #[]) (mvT hZ (hw _ (List.mem_of_getElem? (i := 46) rfl)))) (mvT hZ (hw _ (List.mem_of_getElem? (i := 46) rfl))) (mvT hZ (hw _ (List.mem_of_getElem? (i := 45) rfl))) (by decide) (backOf (W := 0) (rmQ l Z a0 hw [] wN wNE wSE wS wSW wNW GS b145 p0 T158.heap n0 (by omega) oo162 f168) hZ (hw _ (List.mem_of_getElem? (i := 47) rfl)) (hw _ (List.mem_of_getElem? (i := 6) rfl)) (by decide) (by decide)) q169a q169c (g := (mkF m 159 #[.val (.int p0), .val (.int p1), .val (.int p2), .val (.int ((p2 &&& (2147483647 : Int32)) % (6 : Int32))), .val (.ref wSW), .val (.int (-1 : Int32)), .val (.int (1 : Int32)), .val (.ref b145), .val (.ref b_160)] [(.ref b145)])) rfl (by rw [hml]; rfl) (Steps.refl _) (argsL := []) (rest := []) (lenOf own_pd_1 rfl) rfl (by show 2 * 0 + _ ≤ _; exact Nat.le_of_eq rfl) (hb hby at_159) (fun _ _ => ⟨rfl, e166, (by decide : 2 + 0 ≤ _), (by decide : 4 + 0 ≤ _)⟩)
            dsimp only [Pt.U, Pt.locs, Pt.cells, Pt.slots] at X169 l169 y169 z169 st169 hQ169
            subst l169 y169 z169
            obtain ⟨rfl, N169q, e169⟩ := hQ169
            have N171 := Fr.app N167 N169q
            refine own_by (T' := T169) (g' := (mkF m 162 #[.val (.int p0), .val (.int p1), .val (.int p2), .val (.int ((p2 &&& (2147483647 : Int32)) % (6 : Int32))), .val (.ref wSW), .val (.int (-1 : Int32)), .val (.int (1 : Int32)), .val (.ref b145), .val (.ref b_160)] [(.int p0)])) (fun _ kt_ => st169.trans kt_) ?_
            refine own_by (T' := T169) (g' := (mkF m 163 #[.val (.int p0), .val (.int p1), .val (.int p2), .val (.int ((p2 &&& (2147483647 : Int32)) % (6 : Int32))), .val (.ref wSW), .val (.int (-1 : Int32)), .val (.int (1 : Int32)), .val (.ref b145), .val (.ref b_160)] [(.int p0), (.int p0)])) (fun _ kt_ => XS.iloadN X169.here hx rfl (hb hby at_162) rfl kt_) ?_
            refine own_by (T' := T169) (g' := (mkF m 166 #[.val (.int p0), .val (.int p1), .val (.int p2), .val (.int ((p2 &&& (2147483647 : Int32)) % (6 : Int32))), .val (.ref wSW), .val (.int (-1 : Int32)), .val (.int (1 : Int32)), .val (.ref b145), .val (.ref b_160)] [])) (fun _ kt_ => XS.icmpNo X169.here hx rfl (hb hby at_163) rfl (XT.ii_ne_f (rfl : p0 = p0)) kt_) ?_
            refine own_by (T' := T169) (g' := (mkF m 168 #[.val (.int p0), .val (.int p1), .val (.int p2), .val (.int ((p2 &&& (2147483647 : Int32)) % (6 : Int32))), .val (.ref wSW), .val (.int (-1 : Int32)), .val (.int (1 : Int32)), .val (.ref b145), .val (.ref b_160)] [(.ref b145)])) (fun _ kt_ => XS.aload X169.here hx rfl (hb hby at_166) rfl rfl kt_) ?_
            have f172 : Fld Z T158.heap b145 "com/example/redoubt/redoubt/core/Cell" "r" "I" (.int p1) := (p151_1.keep K158 nin0)
            obtain ⟨cq173, kq173, q173a, q173b, q173c⟩ := isOf hZ e169 f170
            obtain ⟨_, _, ⟨T173, L173, k173, n173⟩, -, X173, ⟨Lc173, hQ173, l173, y173, z173⟩, st173⟩ := X169.virtualBack hx (y := (⟨"com/example/redoubt/redoubt/core/Cell", "r", "()I"⟩ : MethodName)) (z := (⟨"com/example/redoubt/redoubt/core/Cell", "r", "()I"⟩ : MethodName)) hown (mvT hZ (hw _ (List.mem_of_getElem? (i := 48) rfl))) (mvT hZ (hw _ (List.mem_of_getElem? (i := 49) rfl))) (notFace_of_selects (args := #[]) (mvT hZ (hw _ (List.mem_of_getElem? (i := 51) rfl)))) (mvT hZ (hw _ (List.mem_of_getElem? (i := 51) rfl))) (mvT hZ (hw _ (List.mem_of_getElem? (i := 50) rfl))) (by decide) (backOf (W := 0) (rmR l Z a0 hw [] wN wNE wSE wS wSW wNW GS b145 p1 T158.heap n0 (by omega) oo162 f172) hZ (hw _ (List.mem_of_getElem? (i := 52) rfl)) (hw _ (List.mem_of_getElem? (i := 6) rfl)) (by decide) (by decide)) q173a q173c (g := (mkF m 168 #[.val (.int p0), .val (.int p1), .val (.int p2), .val (.int ((p2 &&& (2147483647 : Int32)) % (6 : Int32))), .val (.ref wSW), .val (.int (-1 : Int32)), .val (.int (1 : Int32)), .val (.ref b145), .val (.ref b_160)] [(.ref b145)])) rfl (by rw [hml]; rfl) (Steps.refl _) (argsL := []) (rest := []) (lenOf own_pd_1 rfl) rfl (by show 2 * 0 + _ ≤ _; exact Nat.le_of_eq rfl) (hb hby at_168) (fun _ _ => ⟨rfl, e169, (by decide : 2 + 0 ≤ _), (by decide : 4 + 0 ≤ _)⟩)
            dsimp only [Pt.U, Pt.locs, Pt.cells, Pt.slots] at X173 l173 y173 z173 st173 hQ173
            subst l173 y173 z173
            obtain ⟨rfl, N173q, e173⟩ := hQ173
            have N174 := Fr.app N171 N173q
            refine own_by (T' := T173) (g' := (mkF m 171 #[.val (.int p0), .val (.int p1), .val (.int p2), .val (.int ((p2 &&& (2147483647 : Int32)) % (6 : Int32))), .val (.ref wSW), .val (.int (-1 : Int32)), .val (.int (1 : Int32)), .val (.ref b145), .val (.ref b_160)] [(.int p1)])) (fun _ kt_ => st173.trans kt_) ?_
            refine own_by (T' := T173) (g' := (mkF m 172 #[.val (.int p0), .val (.int p1), .val (.int p2), .val (.int ((p2 &&& (2147483647 : Int32)) % (6 : Int32))), .val (.ref wSW), .val (.int (-1 : Int32)), .val (.int (1 : Int32)), .val (.ref b145), .val (.ref b_160)] [(.int p1), (.int p1)])) (fun _ kt_ => XS.iloadN X173.here hx rfl (hb hby at_171) rfl kt_) ?_
            refine own_by (T' := T173) (g' := (mkF m 175 #[.val (.int p0), .val (.int p1), .val (.int p2), .val (.int ((p2 &&& (2147483647 : Int32)) % (6 : Int32))), .val (.ref wSW), .val (.int (-1 : Int32)), .val (.int (1 : Int32)), .val (.ref b145), .val (.ref b_160)] [])) (fun _ kt_ => XS.icmpNo X173.here hx rfl (hb hby at_172) rfl (XT.ii_ne_f (rfl : p1 = p1)) kt_) ?_
            refine own_by (T' := T173) (g' := (mkF m 176 #[.val (.int p0), .val (.int p1), .val (.int p2), .val (.int ((p2 &&& (2147483647 : Int32)) % (6 : Int32))), .val (.ref wSW), .val (.int (-1 : Int32)), .val (.int (1 : Int32)), .val (.ref b145), .val (.ref b_160)] [(.int (1 : Int32))])) (fun _ kt_ => XS.iconst X173.here hx rfl (hb hby at_175) kt_) ?_
            refine own_by (T' := T173) (g' := (mkF m 180 #[.val (.int p0), .val (.int p1), .val (.int p2), .val (.int ((p2 &&& (2147483647 : Int32)) % (6 : Int32))), .val (.ref wSW), .val (.int (-1 : Int32)), .val (.int (1 : Int32)), .val (.ref b145), .val (.ref b_160)] [(.int (1 : Int32))])) (fun _ kt_ => XS.goto X173.here hx rfl (pc0 := 176) (pc' := 180) rfl (hb hby at_176) (by decide) (by decide) kt_) ?_
            have hn175 : nar .boolean (1 : Int32) = (1 : Int32) := rfl
            obtain ⟨fs176, hr176, hrun176, hended176, hW176, hsame176⟩ := X173.leave (v := some (.int (nar .boolean (1 : Int32)))) (fun h => by rw [Bd.returns] at h; cases h)
            refine ⟨_, _, retN X173 hx (t := .boolean) Bd.returns (by simp) (hb hby at_180) hr176, hrun176, hended176, _, _, rfl, ?_, ⟨_, rfl⟩, hW176, hsame176.mono (by decide) (by decide)⟩
            show Q_rm0 Z wN wNE wSE wS wSW wNW p0 p1 p2 h0 n0 _ T173.heap _
            exact ⟨(congrArg (fun z => some (Value.int z)) hn175), N174⟩
          · refine own_by (T' := s₁) (g' := (mkF m 102 #[.val (.int p0), .val (.int p1), .val (.int p2), .val (.int ((p2 &&& (2147483647 : Int32)) % (6 : Int32))), .unset, .unset, .unset, .unset, .unset] [])) (fun _ kt_ => XS.icmpYes X0.here hx rfl (pc0 := 85) (pc' := 102) rfl (hb hby at_85) rfl (XT.ii_ne_t hc142) (by decide) (by decide) kt_) ?_
            have f177 := GS.2.2.2.2.2.2.2.2.2.2.2.2.2.2.2.2.2.2.2.2.1.ext O0.2
            obtain ⟨T178, X178, e178, st178⟩ := getS2 X0 hx hZ hown (host := "") (Or.inl (hw _ (List.mem_of_getElem? (i := 57) rfl))) Via.refl e0 f177 (g := (mkF m 102 #[.val (.int p0), .val (.int p1), .val (.int p2), .val (.int ((p2 &&& (2147483647 : Int32)) % (6 : Int32))), .unset, .unset, .unset, .unset, .unset] [])) rfl (hb hby at_102)
            refine own_by (T' := T178) (g' := (mkF m 105 #[.val (.int p0), .val (.int p1), .val (.int p2), .val (.int ((p2 &&& (2147483647 : Int32)) % (6 : Int32))), .unset, .unset, .unset, .unset, .unset] [(.ref wNW)])) st178 ?_
            refine own_by (T' := T178) (g' := (mkF m 107 #[.val (.int p0), .val (.int p1), .val (.int p2), .val (.int ((p2 &&& (2147483647 : Int32)) % (6 : Int32))), .val (.ref wNW), .unset, .unset, .unset, .unset] [])) (fun _ kt_ => XS.astore X178.here hx rfl (hb hby at_105) rfl rfl (l' := #[.val (.int p0), .val (.int p1), .val (.int p2), .val (.int ((p2 &&& (2147483647 : Int32)) % (6 : Int32))), .val (.ref wNW), .unset, .unset, .unset, .unset]) rfl kt_) ?_
            refine own_by (T' := T178) (g' := (mkF m 108 #[.val (.int p0), .val (.int p1), .val (.int p2), .val (.int ((p2 &&& (2147483647 : Int32)) % (6 : Int32))), .val (.ref wNW), .unset, .unset, .unset, .unset] [(.int (-1 : Int32))])) (fun _ kt_ => XS.iconst X178.here hx rfl (hb hby at_107) kt_) ?_
            refine own_by (T' := T178) (g' := (mkF m 110 #[.val (.int p0), .val (.int p1), .val (.int p2), .val (.int ((p2 &&& (2147483647 : Int32)) % (6 : Int32))), .val (.ref wNW), .val (.int (-1 : Int32)), .unset, .unset, .unset] [])) (fun _ kt_ => XS.istore X178.here hx rfl (hb hby at_108) rfl (l' := #[.val (.int p0), .val (.int p1), .val (.int p2), .val (.int ((p2 &&& (2147483647 : Int32)) % (6 : Int32))), .val (.ref wNW), .val (.int (-1 : Int32)), .unset, .unset, .unset]) rfl kt_) ?_
            refine own_by (T' := T178) (g' := (mkF m 111 #[.val (.int p0), .val (.int p1), .val (.int p2), .val (.int ((p2 &&& (2147483647 : Int32)) % (6 : Int32))), .val (.ref wNW), .val (.int (-1 : Int32)), .unset, .unset, .unset] [(.int (0 : Int32))])) (fun _ kt_ => XS.iconst X178.here hx rfl (hb hby at_110) kt_) ?_
            refine own_by (T' := T178) (g' := (mkF m 113 #[.val (.int p0), .val (.int p1), .val (.int p2), .val (.int ((p2 &&& (2147483647 : Int32)) % (6 : Int32))), .val (.ref wNW), .val (.int (-1 : Int32)), .val (.int (0 : Int32)), .unset, .unset] [])) (fun _ kt_ => XS.istore X178.here hx rfl (hb hby at_111) rfl (l' := #[.val (.int p0), .val (.int p1), .val (.int p2), .val (.int ((p2 &&& (2147483647 : Int32)) % (6 : Int32))), .val (.ref wNW), .val (.int (-1 : Int32)), .val (.int (0 : Int32)), .unset, .unset]) rfl kt_) ?_
            obtain ⟨T179, h179, X179, e179, E179, A179, D179, -, st179⟩ := newO X178 hx hZ hown (hw _ (List.mem_of_getElem? (i := 4) rfl)) (hw _ (List.mem_of_getElem? (i := 5) rfl)) (hw _ (List.mem_of_getElem? (i := 6) rfl)) e178 (g := (mkF m 113 #[.val (.int p0), .val (.int p1), .val (.int p2), .val (.int ((p2 &&& (2147483647 : Int32)) % (6 : Int32))), .val (.ref wNW), .val (.int (-1 : Int32)), .val (.int (0 : Int32)), .unset, .unset] [])) rfl (hb hby at_113) (by decide) (by decide)
            obtain ⟨b179, g179⟩ : ∃ z, z = h0.size := ⟨_, rfl⟩
            rw [← g179] at A179 D179 st179
            have K180 : Keep h0 h179 [] := own_kext E179
            have zzK180 : h0.size ≤ h179.size := K180.1
            have oo181 : Old Z n0 h179 := O0.keep K180 all0
            have kt182 : Keep h0 h179 [] := KT0.trans K180 all0
            have lab179 := A179.lt
            have f183 : Fld Z h179 b179 "com/example/redoubt/redoubt/core/Cell" "q" "I" (.int (0 : Int32)) := D179 (Or.inr (hw _ (List.mem_of_getElem? (i := 19) rfl))) (ty := .int) (by decide)
            have f184 : Fld Z h179 b179 "com/example/redoubt/redoubt/core/Cell" "r" "I" (.int (0 : Int32)) := D179 (Or.inr (hw _ (List.mem_of_getElem? (i := 21) rfl))) (ty := .int) (by decide)
            refine own_by (T' := T179) (g' := (mkF m 116 #[.val (.int p0), .val (.int p1), .val (.int p2), .val (.int ((p2 &&& (2147483647 : Int32)) % (6 : Int32))), .val (.ref wNW), .val (.int (-1 : Int32)), .val (.int (0 : Int32)), .unset, .unset] [(.ref b179)])) st179 ?_
            refine own_by (T' := T179) (g' := (mkF m 117 #[.val (.int p0), .val (.int p1), .val (.int p2), .val (.int ((p2 &&& (2147483647 : Int32)) % (6 : Int32))), .val (.ref wNW), .val (.int (-1 : Int32)), .val (.int (0 : Int32)), .unset, .unset] [(.ref b179), (.ref b179)])) (fun _ kt_ => XS.dup X179.here hx rfl (hb hby at_116) rfl rfl kt_) ?_
            refine own_by (T' := T179) (g' := (mkF m 118 #[.val (.int p0), .val (.int p1), .val (.int p2), .val (.int ((p2 &&& (2147483647 : Int32)) % (6 : Int32))), .val (.ref wNW), .val (.int (-1 : Int32)), .val (.int (0 : Int32)), .unset, .unset] [(.int p0), (.ref b179), (.ref b179)])) (fun _ kt_ => XS.iloadN X179.here hx rfl (hb hby at_117) rfl kt_) ?_
            refine own_by (T' := T179) (g' := (mkF m 119 #[.val (.int p0), .val (.int p1), .val (.int p2), .val (.int ((p2 &&& (2147483647 : Int32)) % (6 : Int32))), .val (.ref wNW), .val (.int (-1 : Int32)), .val (.int (0 : Int32)), .unset, .unset] [(.int p1), (.int p0), (.ref b179), (.ref b179)])) (fun _ kt_ => XS.iloadN X179.here hx rfl (hb hby at_118) rfl kt_) ?_
            obtain ⟨_, _, ⟨T185, L185, k185, n185⟩, -, X185, ⟨Lc185, hQ185, l185, y185, z185⟩, st185⟩ := X179.specialBack hx (y := (⟨"com/example/redoubt/redoubt/core/Cell", "<init>", "(II)V"⟩ : MethodName)) rfl hown (mvT hZ (hw _ (List.mem_of_getElem? (i := 7) rfl))) (mvT hZ (hw _ (List.mem_of_getElem? (i := 8) rfl))) (mvT hZ (hw _ (List.mem_of_getElem? (i := 9) rfl))) (by decide) (backOf (W := 1) (rmIni l Z a0 hw [] wN wNE wSE wS wSW wNW GS b179 p0 p1 h179 n0 (by omega) oo181 A179 (by omega) f183 f184) hZ (hw _ (List.mem_of_getElem? (i := 9) rfl)) (hw _ (List.mem_of_getElem? (i := 6) rfl)) (by decide) (by decide)) (g := (mkF m 119 #[.val (.int p0), .val (.int p1), .val (.int p2), .val (.int ((p2 &&& (2147483647 : Int32)) % (6 : Int32))), .val (.ref wNW), .val (.int (-1 : Int32)), .val (.int (0 : Int32)), .unset, .unset] [(.int p1), (.int p0), (.ref b179), (.ref b179)])) rfl (by rw [hml]; rfl) (Steps.refl _) (a := b179) (argsL := [(.int p0), (.int p1)]) (rest := [(.ref b179)]) (lenOf own_pd_2 rfl) rfl (by show 2 * 0 + _ ≤ _; exact Nat.le_of_eq rfl) (hb hby at_119) (fun _ _ => ⟨rfl, e179, (by decide : 1 + 0 ≤ _), (by decide : 2 + 0 ≤ _)⟩)
            dsimp only [Pt.U, Pt.locs, Pt.cells, Pt.slots] at X185 l185 y185 z185 st185 hQ185
            subst l185 y185 z185
            obtain ⟨rfl, N185q, K185, p185_0, p185_1⟩ := hQ185
            have N186 := Fr.app N0 N185q
            have zzK185 : h179.size ≤ T185.heap.size := K185.1
            have oo187 : Old Z n0 T185.heap := oo181.keep K185 (allS (by omega : n0 ≤ b179) all0)
            have kt188 : Keep h0 T185.heap [] := kt182.trans K185 (allS (Or.inr (by omega : h0.size ≤ b179)) all0)
            refine own_by (T' := T185) (g' := (mkF m 122 #[.val (.int p0), .val (.int p1), .val (.int p2), .val (.int ((p2 &&& (2147483647 : Int32)) % (6 : Int32))), .val (.ref wNW), .val (.int (-1 : Int32)), .val (.int (0 : Int32)), .unset, .unset] [(.ref b179)])) (fun _ kt_ => st185.trans kt_) ?_
            refine own_by (T' := T185) (g' := (mkF m 124 #[.val (.int p0), .val (.int p1), .val (.int p2), .val (.int ((p2 &&& (2147483647 : Int32)) % (6 : Int32))), .val (.ref wNW), .val (.int (-1 : Int32)), .val (.int (0 : Int32)), .val (.ref b179), .unset] [])) (fun _ kt_ => XS.astore X185.here hx rfl (hb hby at_122) rfl rfl (l' := #[.val (.int p0), .val (.int p1), .val (.int p2), .val (.int ((p2 &&& (2147483647 : Int32)) % (6 : Int32))), .val (.ref wNW), .val (.int (-1 : Int32)), .val (.int (0 : Int32)), .val (.ref b179), .unset]) rfl kt_) ?_
            refine own_by (T' := T185) (g' := (mkF m 126 #[.val (.int p0), .val (.int p1), .val (.int p2), .val (.int ((p2 &&& (2147483647 : Int32)) % (6 : Int32))), .val (.ref wNW), .val (.int (-1 : Int32)), .val (.int (0 : Int32)), .val (.ref b179), .unset] [(.ref b179)])) (fun _ kt_ => XS.aload X185.here hx rfl (hb hby at_124) rfl rfl kt_) ?_
            refine own_by (T' := T185) (g' := (mkF m 128 #[.val (.int p0), .val (.int p1), .val (.int p2), .val (.int ((p2 &&& (2147483647 : Int32)) % (6 : Int32))), .val (.ref wNW), .val (.int (-1 : Int32)), .val (.int (0 : Int32)), .val (.ref b179), .unset] [(.ref wNW), (.ref b179)])) (fun _ kt_ => XS.aload X185.here hx rfl (hb hby at_126) rfl rfl kt_) ?_
            have f189 := GS.2.2.2.2.2.2.2.2.2.2.2.2.2.2.2.2.2.2.2.2.2.1.ext oo187.2
            have f190 := GS.2.2.2.2.2.2.2.2.2.2.2.2.2.2.2.2.2.2.2.2.2.2.1.ext oo187.2
            have f191 := GS.2.2.2.2.2.2.2.2.2.2.2.2.2.2.2.2.2.2.2.2.2.2.2.ext oo187.2
            have f193 : Exa Z T185.heap b179 "com/example/redoubt/redoubt/core/Cell" := (A179.keep K185)
            obtain ⟨cq192, kq192, q192a, q192b, q192c⟩ := isOf hZ rfl f193
            obtain ⟨_, _, ⟨T192, L192, k192, n192⟩, -, X192, ⟨Lc192, hQ192, l192, y192, z192⟩, st192⟩ := X185.virtualBack hx (y := (⟨"com/example/redoubt/redoubt/core/Cell", "step", "(Lcom/example/redoubt/redoubt/core/Direction;)Lcom/example/redoubt/redoubt/core/Cell;"⟩ : MethodName)) (z := (⟨"com/example/redoubt/redoubt/core/Cell", "step", "(Lcom/example/redoubt/redoubt/core/Direction;)Lcom/example/redoubt/redoubt/core/Cell;"⟩ : MethodName)) hown (mvT hZ (hw _ (List.mem_of_getElem? (i := 22) rfl))) (mvT hZ (hw _ (List.mem_of_getElem? (i := 23) rfl))) (notFace_of_selects (args := #[]) (mvT hZ (hw _ (List.mem_of_getElem? (i := 25) rfl)))) (mvT hZ (hw _ (List.mem_of_getElem? (i := 25) rfl))) (mvT hZ (hw _ (List.mem_of_getElem? (i := 24) rfl))) (by decide) (backOf (W := 0) (rmStep l Z a0 hw [] wN wNE wSE wS wSW wNW GS b179 wNW p0 p1 (-1 : Int32) (0 : Int32) T185.heap n0 (by omega) oo187 p185_0 p185_1 f189 f190 f191) hZ (hw _ (List.mem_of_getElem? (i := 26) rfl)) (hw _ (List.mem_of_getElem? (i := 6) rfl)) (by decide) (by decide)) q192a q192c (g := (mkF m 128 #[.val (.int p0), .val (.int p1), .val (.int p2), .val (.int ((p2 &&& (2147483647 : Int32)) % (6 : Int32))), .val (.ref wNW), .val (.int (-1 : Int32)), .val (.int (0 : Int32)), .val (.ref b179), .unset] [(.ref wNW), (.ref b179)])) rfl (by rw [hml]; rfl) (Steps.refl _) (argsL := [(.ref wNW)]) (rest := []) (lenOf own_pd_3 rfl) rfl (by show 2 * 0 + _ ≤ _; exact Nat.le_of_eq rfl) (hb hby at_128) (fun _ _ => ⟨rfl, rfl, (by decide : 1 + 1 ≤ _), (by decide : 2 + 2 ≤ _)⟩)
            dsimp only [Pt.U, Pt.locs, Pt.cells, Pt.slots] at X192 l192 y192 z192 st192 hQ192
            subst l192 y192 z192
            obtain ⟨b_194, rfl, N192q, K192, p192_0, p192_1, p192_2, p192_3⟩ := hQ192
            have N195 := Fr.app N186 N192q
            have gb_194 : T185.heap.size ≤ b_194 := p192_0
            have zzK192 : T185.heap.size ≤ T192.heap.size := K192.1
            have oo196 : Old Z n0 T192.heap := oo187.keep K192 all0
            have kt197 : Keep h0 T192.heap [] := kt188.trans K192 all0
            refine own_by (T' := T192) (g' := (mkF m 131 #[.val (.int p0), .val (.int p1), .val (.int p2), .val (.int ((p2 &&& (2147483647 : Int32)) % (6 : Int32))), .val (.ref wNW), .val (.int (-1 : Int32)), .val (.int (0 : Int32)), .val (.ref b179), .unset] [(.ref b_194)])) (fun _ kt_ => st192.trans kt_) ?_
            refine own_by (T' := T192) (g' := (mkF m 133 #[.val (.int p0), .val (.int p1), .val (.int p2), .val (.int ((p2 &&& (2147483647 : Int32)) % (6 : Int32))), .val (.ref wNW), .val (.int (-1 : Int32)), .val (.int (0 : Int32)), .val (.ref b179), .val (.ref b_194)] [])) (fun _ kt_ => XS.astore X192.here hx rfl (hb hby at_131) rfl rfl (l' := #[.val (.int p0), .val (.int p1), .val (.int p2), .val (.int ((p2 &&& (2147483647 : Int32)) % (6 : Int32))), .val (.ref wNW), .val (.int (-1 : Int32)), .val (.int (0 : Int32)), .val (.ref b179), .val (.ref b_194)]) rfl kt_) ?_
            refine own_by (T' := T192) (g' := (mkF m 135 #[.val (.int p0), .val (.int p1), .val (.int p2), .val (.int ((p2 &&& (2147483647 : Int32)) % (6 : Int32))), .val (.ref wNW), .val (.int (-1 : Int32)), .val (.int (0 : Int32)), .val (.ref b179), .val (.ref b_194)] [(.ref b_194)])) (fun _ kt_ => XS.aload X192.here hx rfl (hb hby at_133) rfl rfl kt_) ?_
            obtain ⟨cq198, kq198, q198a, q198b, q198c⟩ := isOf hZ rfl p192_1
            obtain ⟨_, _, ⟨T198, L198, k198, n198⟩, -, X198, ⟨Lc198, hQ198, l198, y198, z198⟩, st198⟩ := X192.virtualBack hx (y := (⟨"com/example/redoubt/redoubt/core/Cell", "q", "()I"⟩ : MethodName)) (z := (⟨"com/example/redoubt/redoubt/core/Cell", "q", "()I"⟩ : MethodName)) hown (mvT hZ (hw _ (List.mem_of_getElem? (i := 43) rfl))) (mvT hZ (hw _ (List.mem_of_getElem? (i := 44) rfl))) (notFace_of_selects (args := #[]) (mvT hZ (hw _ (List.mem_of_getElem? (i := 46) rfl)))) (mvT hZ (hw _ (List.mem_of_getElem? (i := 46) rfl))) (mvT hZ (hw _ (List.mem_of_getElem? (i := 45) rfl))) (by decide) (backOf (W := 0) (rmQ l Z a0 hw [] wN wNE wSE wS wSW wNW GS b_194 (p0 + (-1 : Int32)) T192.heap n0 (by omega) oo196 p192_2) hZ (hw _ (List.mem_of_getElem? (i := 47) rfl)) (hw _ (List.mem_of_getElem? (i := 6) rfl)) (by decide) (by decide)) q198a q198c (g := (mkF m 135 #[.val (.int p0), .val (.int p1), .val (.int p2), .val (.int ((p2 &&& (2147483647 : Int32)) % (6 : Int32))), .val (.ref wNW), .val (.int (-1 : Int32)), .val (.int (0 : Int32)), .val (.ref b179), .val (.ref b_194)] [(.ref b_194)])) rfl (by rw [hml]; rfl) (Steps.refl _) (argsL := []) (rest := []) (lenOf own_pd_1 rfl) rfl (by show 2 * 0 + _ ≤ _; exact Nat.le_of_eq rfl) (hb hby at_135) (fun _ _ => ⟨rfl, rfl, (by decide : 2 + 0 ≤ _), (by decide : 4 + 0 ≤ _)⟩)
            dsimp only [Pt.U, Pt.locs, Pt.cells, Pt.slots] at X198 l198 y198 z198 st198 hQ198
            subst l198 y198 z198
            obtain ⟨rfl, N198q, e198⟩ := hQ198
            have N199 := Fr.app N195 N198q
            refine own_by (T' := T198) (g' := (mkF m 138 #[.val (.int p0), .val (.int p1), .val (.int p2), .val (.int ((p2 &&& (2147483647 : Int32)) % (6 : Int32))), .val (.ref wNW), .val (.int (-1 : Int32)), .val (.int (0 : Int32)), .val (.ref b179), .val (.ref b_194)] [(.int (p0 + (-1 : Int32)))])) (fun _ kt_ => st198.trans kt_) ?_
            refine own_by (T' := T198) (g' := (mkF m 139 #[.val (.int p0), .val (.int p1), .val (.int p2), .val (.int ((p2 &&& (2147483647 : Int32)) % (6 : Int32))), .val (.ref wNW), .val (.int (-1 : Int32)), .val (.int (0 : Int32)), .val (.ref b179), .val (.ref b_194)] [(.int p0), (.int (p0 + (-1 : Int32)))])) (fun _ kt_ => XS.iloadN X198.here hx rfl (hb hby at_138) rfl kt_) ?_
            refine own_by (T' := T198) (g' := (mkF m 141 #[.val (.int p0), .val (.int p1), .val (.int p2), .val (.int ((p2 &&& (2147483647 : Int32)) % (6 : Int32))), .val (.ref wNW), .val (.int (-1 : Int32)), .val (.int (0 : Int32)), .val (.ref b179), .val (.ref b_194)] [(.int (-1 : Int32)), (.int p0), (.int (p0 + (-1 : Int32)))])) (fun _ kt_ => XS.iload X198.here hx rfl (hb hby at_139) rfl kt_) ?_
            refine own_by (T' := T198) (g' := (mkF m 142 #[.val (.int p0), .val (.int p1), .val (.int p2), .val (.int ((p2 &&& (2147483647 : Int32)) % (6 : Int32))), .val (.ref wNW), .val (.int (-1 : Int32)), .val (.int (0 : Int32)), .val (.ref b179), .val (.ref b_194)] [(.int (p0 + (-1 : Int32))), (.int (p0 + (-1 : Int32)))])) (fun _ kt_ => XS.iadd X198.here hx rfl (hb hby at_141) rfl kt_) ?_
            refine own_by (T' := T198) (g' := (mkF m 145 #[.val (.int p0), .val (.int p1), .val (.int p2), .val (.int ((p2 &&& (2147483647 : Int32)) % (6 : Int32))), .val (.ref wNW), .val (.int (-1 : Int32)), .val (.int (0 : Int32)), .val (.ref b179), .val (.ref b_194)] [])) (fun _ kt_ => XS.icmpNo X198.here hx rfl (hb hby at_142) rfl (XT.ii_ne_f (rfl : (p0 + (-1 : Int32)) = (p0 + (-1 : Int32)))) kt_) ?_
            refine own_by (T' := T198) (g' := (mkF m 147 #[.val (.int p0), .val (.int p1), .val (.int p2), .val (.int ((p2 &&& (2147483647 : Int32)) % (6 : Int32))), .val (.ref wNW), .val (.int (-1 : Int32)), .val (.int (0 : Int32)), .val (.ref b179), .val (.ref b_194)] [(.ref b_194)])) (fun _ kt_ => XS.aload X198.here hx rfl (hb hby at_145) rfl rfl kt_) ?_
            obtain ⟨cq200, kq200, q200a, q200b, q200c⟩ := isOf hZ e198 p192_1
            obtain ⟨_, _, ⟨T200, L200, k200, n200⟩, -, X200, ⟨Lc200, hQ200, l200, y200, z200⟩, st200⟩ := X198.virtualBack hx (y := (⟨"com/example/redoubt/redoubt/core/Cell", "r", "()I"⟩ : MethodName)) (z := (⟨"com/example/redoubt/redoubt/core/Cell", "r", "()I"⟩ : MethodName)) hown (mvT hZ (hw _ (List.mem_of_getElem? (i := 48) rfl))) (mvT hZ (hw _ (List.mem_of_getElem? (i := 49) rfl))) (notFace_of_selects (args := #[]) (mvT hZ (hw _ (List.mem_of_getElem? (i := 51) rfl)))) (mvT hZ (hw _ (List.mem_of_getElem? (i := 51) rfl))) (mvT hZ (hw _ (List.mem_of_getElem? (i := 50) rfl))) (by decide) (backOf (W := 0) (rmR l Z a0 hw [] wN wNE wSE wS wSW wNW GS b_194 (p1 + (0 : Int32)) T192.heap n0 (by omega) oo196 p192_3) hZ (hw _ (List.mem_of_getElem? (i := 52) rfl)) (hw _ (List.mem_of_getElem? (i := 6) rfl)) (by decide) (by decide)) q200a q200c (g := (mkF m 147 #[.val (.int p0), .val (.int p1), .val (.int p2), .val (.int ((p2 &&& (2147483647 : Int32)) % (6 : Int32))), .val (.ref wNW), .val (.int (-1 : Int32)), .val (.int (0 : Int32)), .val (.ref b179), .val (.ref b_194)] [(.ref b_194)])) rfl (by rw [hml]; rfl) (Steps.refl _) (argsL := []) (rest := []) (lenOf own_pd_1 rfl) rfl (by show 2 * 0 + _ ≤ _; exact Nat.le_of_eq rfl) (hb hby at_147) (fun _ _ => ⟨rfl, e198, (by decide : 2 + 0 ≤ _), (by decide : 4 + 0 ≤ _)⟩)
            dsimp only [Pt.U, Pt.locs, Pt.cells, Pt.slots] at X200 l200 y200 z200 st200 hQ200
            subst l200 y200 z200
            obtain ⟨rfl, N200q, e200⟩ := hQ200
            have N201 := Fr.app N199 N200q
            refine own_by (T' := T200) (g' := (mkF m 150 #[.val (.int p0), .val (.int p1), .val (.int p2), .val (.int ((p2 &&& (2147483647 : Int32)) % (6 : Int32))), .val (.ref wNW), .val (.int (-1 : Int32)), .val (.int (0 : Int32)), .val (.ref b179), .val (.ref b_194)] [(.int (p1 + (0 : Int32)))])) (fun _ kt_ => st200.trans kt_) ?_
            refine own_by (T' := T200) (g' := (mkF m 151 #[.val (.int p0), .val (.int p1), .val (.int p2), .val (.int ((p2 &&& (2147483647 : Int32)) % (6 : Int32))), .val (.ref wNW), .val (.int (-1 : Int32)), .val (.int (0 : Int32)), .val (.ref b179), .val (.ref b_194)] [(.int p1), (.int (p1 + (0 : Int32)))])) (fun _ kt_ => XS.iloadN X200.here hx rfl (hb hby at_150) rfl kt_) ?_
            refine own_by (T' := T200) (g' := (mkF m 153 #[.val (.int p0), .val (.int p1), .val (.int p2), .val (.int ((p2 &&& (2147483647 : Int32)) % (6 : Int32))), .val (.ref wNW), .val (.int (-1 : Int32)), .val (.int (0 : Int32)), .val (.ref b179), .val (.ref b_194)] [(.int (0 : Int32)), (.int p1), (.int (p1 + (0 : Int32)))])) (fun _ kt_ => XS.iload X200.here hx rfl (hb hby at_151) rfl kt_) ?_
            refine own_by (T' := T200) (g' := (mkF m 154 #[.val (.int p0), .val (.int p1), .val (.int p2), .val (.int ((p2 &&& (2147483647 : Int32)) % (6 : Int32))), .val (.ref wNW), .val (.int (-1 : Int32)), .val (.int (0 : Int32)), .val (.ref b179), .val (.ref b_194)] [(.int (p1 + (0 : Int32))), (.int (p1 + (0 : Int32)))])) (fun _ kt_ => XS.iadd X200.here hx rfl (hb hby at_153) rfl kt_) ?_
            refine own_by (T' := T200) (g' := (mkF m 157 #[.val (.int p0), .val (.int p1), .val (.int p2), .val (.int ((p2 &&& (2147483647 : Int32)) % (6 : Int32))), .val (.ref wNW), .val (.int (-1 : Int32)), .val (.int (0 : Int32)), .val (.ref b179), .val (.ref b_194)] [])) (fun _ kt_ => XS.icmpNo X200.here hx rfl (hb hby at_154) rfl (XT.ii_ne_f (rfl : (p1 + (0 : Int32)) = (p1 + (0 : Int32)))) kt_) ?_
            refine own_by (T' := T200) (g' := (mkF m 159 #[.val (.int p0), .val (.int p1), .val (.int p2), .val (.int ((p2 &&& (2147483647 : Int32)) % (6 : Int32))), .val (.ref wNW), .val (.int (-1 : Int32)), .val (.int (0 : Int32)), .val (.ref b179), .val (.ref b_194)] [(.ref b179)])) (fun _ kt_ => XS.aload X200.here hx rfl (hb hby at_157) rfl rfl kt_) ?_
            have f202 : Fld Z T192.heap b179 "com/example/redoubt/redoubt/core/Cell" "q" "I" (.int p0) := (p185_0.keep K192 nin0)
            have f204 : Exa Z T192.heap b179 "com/example/redoubt/redoubt/core/Cell" := (f193.keep K192)
            obtain ⟨cq203, kq203, q203a, q203b, q203c⟩ := isOf hZ e200 f204
            obtain ⟨_, _, ⟨T203, L203, k203, n203⟩, -, X203, ⟨Lc203, hQ203, l203, y203, z203⟩, st203⟩ := X200.virtualBack hx (y := (⟨"com/example/redoubt/redoubt/core/Cell", "q", "()I"⟩ : MethodName)) (z := (⟨"com/example/redoubt/redoubt/core/Cell", "q", "()I"⟩ : MethodName)) hown (mvT hZ (hw _ (List.mem_of_getElem? (i := 43) rfl))) (mvT hZ (hw _ (List.mem_of_getElem? (i := 44) rfl))) (notFace_of_selects (args := #[]) (mvT hZ (hw _ (List.mem_of_getElem? (i := 46) rfl)))) (mvT hZ (hw _ (List.mem_of_getElem? (i := 46) rfl))) (mvT hZ (hw _ (List.mem_of_getElem? (i := 45) rfl))) (by decide) (backOf (W := 0) (rmQ l Z a0 hw [] wN wNE wSE wS wSW wNW GS b179 p0 T192.heap n0 (by omega) oo196 f202) hZ (hw _ (List.mem_of_getElem? (i := 47) rfl)) (hw _ (List.mem_of_getElem? (i := 6) rfl)) (by decide) (by decide)) q203a q203c (g := (mkF m 159 #[.val (.int p0), .val (.int p1), .val (.int p2), .val (.int ((p2 &&& (2147483647 : Int32)) % (6 : Int32))), .val (.ref wNW), .val (.int (-1 : Int32)), .val (.int (0 : Int32)), .val (.ref b179), .val (.ref b_194)] [(.ref b179)])) rfl (by rw [hml]; rfl) (Steps.refl _) (argsL := []) (rest := []) (lenOf own_pd_1 rfl) rfl (by show 2 * 0 + _ ≤ _; exact Nat.le_of_eq rfl) (hb hby at_159) (fun _ _ => ⟨rfl, e200, (by decide : 2 + 0 ≤ _), (by decide : 4 + 0 ≤ _)⟩)
            dsimp only [Pt.U, Pt.locs, Pt.cells, Pt.slots] at X203 l203 y203 z203 st203 hQ203
            subst l203 y203 z203
            obtain ⟨rfl, N203q, e203⟩ := hQ203
            have N205 := Fr.app N201 N203q
            refine own_by (T' := T203) (g' := (mkF m 162 #[.val (.int p0), .val (.int p1), .val (.int p2), .val (.int ((p2 &&& (2147483647 : Int32)) % (6 : Int32))), .val (.ref wNW), .val (.int (-1 : Int32)), .val (.int (0 : Int32)), .val (.ref b179), .val (.ref b_194)] [(.int p0)])) (fun _ kt_ => st203.trans kt_) ?_
            refine own_by (T' := T203) (g' := (mkF m 163 #[.val (.int p0), .val (.int p1), .val (.int p2), .val (.int ((p2 &&& (2147483647 : Int32)) % (6 : Int32))), .val (.ref wNW), .val (.int (-1 : Int32)), .val (.int (0 : Int32)), .val (.ref b179), .val (.ref b_194)] [(.int p0), (.int p0)])) (fun _ kt_ => XS.iloadN X203.here hx rfl (hb hby at_162) rfl kt_) ?_
            refine own_by (T' := T203) (g' := (mkF m 166 #[.val (.int p0), .val (.int p1), .val (.int p2), .val (.int ((p2 &&& (2147483647 : Int32)) % (6 : Int32))), .val (.ref wNW), .val (.int (-1 : Int32)), .val (.int (0 : Int32)), .val (.ref b179), .val (.ref b_194)] [])) (fun _ kt_ => XS.icmpNo X203.here hx rfl (hb hby at_163) rfl (XT.ii_ne_f (rfl : p0 = p0)) kt_) ?_
            refine own_by (T' := T203) (g' := (mkF m 168 #[.val (.int p0), .val (.int p1), .val (.int p2), .val (.int ((p2 &&& (2147483647 : Int32)) % (6 : Int32))), .val (.ref wNW), .val (.int (-1 : Int32)), .val (.int (0 : Int32)), .val (.ref b179), .val (.ref b_194)] [(.ref b179)])) (fun _ kt_ => XS.aload X203.here hx rfl (hb hby at_166) rfl rfl kt_) ?_
            have f206 : Fld Z T192.heap b179 "com/example/redoubt/redoubt/core/Cell" "r" "I" (.int p1) := (p185_1.keep K192 nin0)
            obtain ⟨cq207, kq207, q207a, q207b, q207c⟩ := isOf hZ e203 f204
            obtain ⟨_, _, ⟨T207, L207, k207, n207⟩, -, X207, ⟨Lc207, hQ207, l207, y207, z207⟩, st207⟩ := X203.virtualBack hx (y := (⟨"com/example/redoubt/redoubt/core/Cell", "r", "()I"⟩ : MethodName)) (z := (⟨"com/example/redoubt/redoubt/core/Cell", "r", "()I"⟩ : MethodName)) hown (mvT hZ (hw _ (List.mem_of_getElem? (i := 48) rfl))) (mvT hZ (hw _ (List.mem_of_getElem? (i := 49) rfl))) (notFace_of_selects (args := #[]) (mvT hZ (hw _ (List.mem_of_getElem? (i := 51) rfl)))) (mvT hZ (hw _ (List.mem_of_getElem? (i := 51) rfl))) (mvT hZ (hw _ (List.mem_of_getElem? (i := 50) rfl))) (by decide) (backOf (W := 0) (rmR l Z a0 hw [] wN wNE wSE wS wSW wNW GS b179 p1 T192.heap n0 (by omega) oo196 f206) hZ (hw _ (List.mem_of_getElem? (i := 52) rfl)) (hw _ (List.mem_of_getElem? (i := 6) rfl)) (by decide) (by decide)) q207a q207c (g := (mkF m 168 #[.val (.int p0), .val (.int p1), .val (.int p2), .val (.int ((p2 &&& (2147483647 : Int32)) % (6 : Int32))), .val (.ref wNW), .val (.int (-1 : Int32)), .val (.int (0 : Int32)), .val (.ref b179), .val (.ref b_194)] [(.ref b179)])) rfl (by rw [hml]; rfl) (Steps.refl _) (argsL := []) (rest := []) (lenOf own_pd_1 rfl) rfl (by show 2 * 0 + _ ≤ _; exact Nat.le_of_eq rfl) (hb hby at_168) (fun _ _ => ⟨rfl, e203, (by decide : 2 + 0 ≤ _), (by decide : 4 + 0 ≤ _)⟩)
            dsimp only [Pt.U, Pt.locs, Pt.cells, Pt.slots] at X207 l207 y207 z207 st207 hQ207
            subst l207 y207 z207
            obtain ⟨rfl, N207q, e207⟩ := hQ207
            have N208 := Fr.app N205 N207q
            refine own_by (T' := T207) (g' := (mkF m 171 #[.val (.int p0), .val (.int p1), .val (.int p2), .val (.int ((p2 &&& (2147483647 : Int32)) % (6 : Int32))), .val (.ref wNW), .val (.int (-1 : Int32)), .val (.int (0 : Int32)), .val (.ref b179), .val (.ref b_194)] [(.int p1)])) (fun _ kt_ => st207.trans kt_) ?_
            refine own_by (T' := T207) (g' := (mkF m 172 #[.val (.int p0), .val (.int p1), .val (.int p2), .val (.int ((p2 &&& (2147483647 : Int32)) % (6 : Int32))), .val (.ref wNW), .val (.int (-1 : Int32)), .val (.int (0 : Int32)), .val (.ref b179), .val (.ref b_194)] [(.int p1), (.int p1)])) (fun _ kt_ => XS.iloadN X207.here hx rfl (hb hby at_171) rfl kt_) ?_
            refine own_by (T' := T207) (g' := (mkF m 175 #[.val (.int p0), .val (.int p1), .val (.int p2), .val (.int ((p2 &&& (2147483647 : Int32)) % (6 : Int32))), .val (.ref wNW), .val (.int (-1 : Int32)), .val (.int (0 : Int32)), .val (.ref b179), .val (.ref b_194)] [])) (fun _ kt_ => XS.icmpNo X207.here hx rfl (hb hby at_172) rfl (XT.ii_ne_f (rfl : p1 = p1)) kt_) ?_
            refine own_by (T' := T207) (g' := (mkF m 176 #[.val (.int p0), .val (.int p1), .val (.int p2), .val (.int ((p2 &&& (2147483647 : Int32)) % (6 : Int32))), .val (.ref wNW), .val (.int (-1 : Int32)), .val (.int (0 : Int32)), .val (.ref b179), .val (.ref b_194)] [(.int (1 : Int32))])) (fun _ kt_ => XS.iconst X207.here hx rfl (hb hby at_175) kt_) ?_
            refine own_by (T' := T207) (g' := (mkF m 180 #[.val (.int p0), .val (.int p1), .val (.int p2), .val (.int ((p2 &&& (2147483647 : Int32)) % (6 : Int32))), .val (.ref wNW), .val (.int (-1 : Int32)), .val (.int (0 : Int32)), .val (.ref b179), .val (.ref b_194)] [(.int (1 : Int32))])) (fun _ kt_ => XS.goto X207.here hx rfl (pc0 := 176) (pc' := 180) rfl (hb hby at_176) (by decide) (by decide) kt_) ?_
            have hn209 : nar .boolean (1 : Int32) = (1 : Int32) := rfl
            obtain ⟨fs210, hr210, hrun210, hended210, hW210, hsame210⟩ := X207.leave (v := some (.int (nar .boolean (1 : Int32)))) (fun h => by rw [Bd.returns] at h; cases h)
            refine ⟨_, _, retN X207 hx (t := .boolean) Bd.returns (by simp) (hb hby at_180) hr210, hrun210, hended210, _, _, rfl, ?_, ⟨_, rfl⟩, hW210, hsame210.mono (by decide) (by decide)⟩
            show Q_rm0 Z wN wNE wSE wS wSW wNW p0 p1 p2 h0 n0 _ T207.heap _
            exact ⟨(congrArg (fun z => some (Value.int z)) hn209), N208⟩
set_option maxRecDepth 65536 in
set_option maxHeartbeats 40000000 in
theorem comes_1 {Post : Tables → Env → Array Value → State → Outcome → State → Prop} (hpost : ∀ tb e args s v u, (limb_1_1.after args s (.returned v) u = true ∧ limb_1_2.after args s (.returned v) u = true ∧ True) → FrameEnd s (.returned v) u (Jvm.fieldLocs frame_1_writes args s ++ Jvm.arrayLocs frame_1_arrays args s ++ Jvm.staticLocs frame_1_statics s) 16 128 → Post tb e args s (.returned v) u) :
    ArmFor flags0 classFile x code maxLocals ret World_1 tables_1 room_1 Calls_1 rest_1 Pre_1 Post := by
  intro l hfl _ _ p e ha hc hk s m args below hf hA hF happ hP
  obtain ⟨hcalls, hrest, hpre⟩ := hP
  obtain ⟨-, -, -, hnamed, -, -, -, hat⟩ := (Spec.applies_iff hf).mp happ
  obtain ⟨hg, hn⟩ := and_e (Cond.before_iff.mp (show (Jvm.Cond.and given_1 narrow_1).before args s = true from hpre))
  obtain ⟨g1a, g1b⟩ := and_e hg
  obtain ⟨g2a, g2b⟩ := and_e g1b
  obtain ⟨g3a, g3b⟩ := and_e g2b
  obtain ⟨g4a, g4b⟩ := and_e hn
  obtain ⟨g5a, g5b⟩ := and_e g4b
  obtain ⟨g6a, g6b⟩ := and_e g5b
  obtain ⟨g7a, g7b⟩ := and_e g6b
  obtain ⟨g8a, g8b⟩ := and_e g7b
  obtain ⟨g9a, g9b⟩ := and_e g8b
  obtain ⟨g10a, g10b⟩ := and_e g9b
  obtain ⟨g11a, g11b⟩ := and_e g10b
  obtain ⟨g12a, g12b⟩ := and_e g11b
  obtain ⟨g13a, g13b⟩ := and_e g12b
  obtain ⟨g14a, g14b⟩ := and_e g13b
  obtain ⟨g15a, g15b⟩ := and_e g14b
  obtain ⟨g16a, g16b⟩ := and_e g15b
  obtain ⟨g17a, g17b⟩ := and_e g16b
  obtain ⟨g18a, g18b⟩ := and_e g17b
  obtain ⟨g19a, g19b⟩ := and_e g18b
  obtain ⟨g20a, g20b⟩ := and_e g19b
  obtain ⟨w0, w1, w2, rfl⟩ : ∃ w0 w1 w2 : Value, args = #[w0, w1, w2] := by
    have hs : args.size = 3 := by simpa [Cond.value, given_1] using g1a
    obtain ⟨L⟩ := args
    match L, hs with
    | [w0, w1, w2], _ => exact ⟨w0, w1, w2, rfl⟩
  have hw := fun d (hd : d ∈ tables_1) => atoms_spec (ws := Jvm.Cond.code x code maxLocals ret :: tables_1) hat d (List.mem_cons_of_mem _ hd)
  have hfit : Fit s := fun {y c} hc i hi => by
    obtain ⟨ha, rfl⟩ := Array.getElem?_eq_some_iff.mp hc
    have q := List.all_eq_true.mp ((Array.all_eq_true_iff_forall_mem.mp hF) _ (Array.getElem_mem ha)) i (List.mem_range.mpr hi)
    simpa [Array.getElem?_eq_getElem hi] using q
  obtain ⟨i0, ei0⟩ := is_v g2a
  obtain rfl : w0 = (.int i0) := Option.some.inj ei0
  obtain ⟨i1, ei1⟩ := is_v g3a
  obtain rfl : w1 = (.int i1) := Option.some.inj ei1
  obtain ⟨i2, ei2⟩ := is_v g3b
  obtain rfl : w2 = (.int i2) := Option.some.inj ei2
  obtain ⟨wN, ev_wN⟩ := exa_v g16a
  have sta_wN := Sta.start ev_wN (Or.inr ⟨(hw _ (List.mem_of_getElem? (i := 2) rfl)), (hw _ (List.mem_of_getElem? (i := 60) rfl))⟩)
  obtain ⟨wNE, ev_wNE⟩ := exa_v g10a
  have sta_wNE := Sta.start ev_wNE (Or.inr ⟨(hw _ (List.mem_of_getElem? (i := 2) rfl)), (hw _ (List.mem_of_getElem? (i := 56) rfl))⟩)
  obtain ⟨wSE, ev_wSE⟩ := exa_v g4a
  have sta_wSE := Sta.start ev_wSE (Or.inr ⟨(hw _ (List.mem_of_getElem? (i := 2) rfl)), (hw _ (List.mem_of_getElem? (i := 3) rfl))⟩)
  obtain ⟨wS, ev_wS⟩ := exa_v g7a
  have sta_wS := Sta.start ev_wS (Or.inr ⟨(hw _ (List.mem_of_getElem? (i := 2) rfl)), (hw _ (List.mem_of_getElem? (i := 54) rfl))⟩)
  obtain ⟨wSW, ev_wSW⟩ := exa_v g19a
  have sta_wSW := Sta.start ev_wSW (Or.inr ⟨(hw _ (List.mem_of_getElem? (i := 2) rfl)), (hw _ (List.mem_of_getElem? (i := 62) rfl))⟩)
  obtain ⟨wNW, ev_wNW⟩ := exa_v g13a
  have sta_wNW := Sta.start ev_wNW (Or.inr ⟨(hw _ (List.mem_of_getElem? (i := 2) rfl)), (hw _ (List.mem_of_getElem? (i := 58) rfl))⟩)
  have exa_wN := Exa.start ev_wN g16a
  have fld_wN_dq := own_fldI ev_wN g17a
  have fld_wN_dr := own_fldI ev_wN g18a
  have exa_wNE := Exa.start ev_wNE g10a
  have fld_wNE_dq := own_fldI ev_wNE g11a
  have fld_wNE_dr := own_fldI ev_wNE g12a
  have exa_wSE := Exa.start ev_wSE g4a
  have fld_wSE_dq := own_fldI ev_wSE g5a
  have fld_wSE_dr := own_fldI ev_wSE g6a
  have exa_wS := Exa.start ev_wS g7a
  have fld_wS_dq := own_fldI ev_wS g8a
  have fld_wS_dr := own_fldI ev_wS g9a
  have exa_wSW := Exa.start ev_wSW g19a
  have fld_wSW_dq := own_fldI ev_wSW g20a
  have fld_wSW_dr := own_fldI ev_wSW g20b
  have exa_wNW := Exa.start ev_wNW g13a
  have fld_wNW_dq := own_fldI ev_wNW g14a
  have fld_wNW_dr := own_fldI ev_wNW g15a
  have GS : Glob s wN wNE wSE wS wSW wNW := ⟨sta_wN, exa_wN, fld_wN_dq, fld_wN_dr, sta_wNE, exa_wNE, fld_wNE_dq, fld_wNE_dr, sta_wSE, exa_wSE, fld_wSE_dq, fld_wSE_dr, sta_wS, exa_wS, fld_wS_dq, fld_wS_dr, sta_wSW, exa_wSW, fld_wSW_dq, fld_wSW_dr, sta_wNW, exa_wNW, fld_wNW_dq, fld_wNW_dr⟩
  obtain ⟨n, o, h1, h2, h3, _, L, rfl, ⟨rfl, N⟩, hq⟩ := rm0 l s _ hw tables_1 wN wNE wSE wS wSW wNW GS i0 i1 i2 s.heap s.heap.size (Nat.le_refl _) (Old.start s) p e ha hc hk s m _ below hf ((Spec.applies_iff_loose hf).mp happ).1 ⟨rfl, State.Warmed39.refl s, rfl⟩ trivial
  refine ⟨n, _, h1, h2, h3, hpost _ _ _ _ _ _ ⟨Cond.after_iff.mpr rfl, Cond.after_iff.mpr (eq_i res_at (Term.int_eval (1)) rfl), trivial⟩ ⟨hq.1, hq.2.1, (hq.2.2.sift fun y hy => Or.inr (N y hy)).mono (by decide) (by decide)⟩⟩
theorem main_1_1 : Claimed_1_1 := comes_1 fun _ _ _ _ _ _ h hF => ⟨h.1, hF⟩
theorem main_1_2 : Claimed_1_2 := comes_1 fun _ _ _ _ _ _ h hF => ⟨h.2.1, hF⟩
end Jvm.Pilot.@@N@@
namespace Jvm.Pilot.@@N@@
open Jvm Jvm.ClassFile Sem Op Lib Jvm.Free Jvm.Stand Jvm.Pilot.@@N@@.Jvm.D
/-! MADE BY PROGRAM (witnessworld.py) out of the Statement's table words and the real class files: 14 classes; the members and pool entries that the words name. The judged class is class 1, her method 1. -/
namespace start1
open Jvm.ClassFile
def u (s : String) : CpInfo := .utf8 (stringToUtf16 s)
/-- a pool by its gaps: so many unusable entries, then the entry; so many at the end -/
def gap : Nat → List CpInfo → List CpInfo
  | 0, r => r
  | n + 1, r => .unusable :: gap n r
def poolList (es : List (Nat × CpInfo)) (last : Nat) : List CpInfo := es.foldr (fun e r => gap e.1 (e.2 :: r)) (gap last [])
def pool (es : List (Nat × CpInfo)) (last : Nat) : Array CpInfo := ⟨poolList es last⟩
def fileOf (pool : Array CpInfo) (this : Nat) (attrs : Array Attribute := #[]) (ms : Array MethodInfo := #[]) (fl : Nat := 33) (sup : Nat := 0) (ifs : Array Nat := #[]) (fds : Array FieldInfo := #[]) : ClassFile where
  minorVersion := 0
  majorVersion := 65
  constantPool := pool
  accessFlags := fl
  thisClass := this
  superClass := sup
  interfaces := ifs
  fields := fds
  methods := ms
  attributes := attrs
def plain (name : String) (sup : Option ClassId) : Class where
  name := name
  kind := .ordinary
  loader := none
  accessFlags := 33
  super := sup
  interfaces := #[]
  cf := none
  fields := #[]
  methods := #[]
  instanceTypes := #[]
  staticTypes := #[]
  resolved := #[]
  callSites := []
  init := .initialized
  statics := none
  mirror := none

def pool0 : Array CpInfo := pool [(5, u "<init>"), (0, u "()V"), (1, .class_ 10), (1, u "java/lang/Object")] 113

def k0c0 : Code := { maxStack := 0, maxLocals := 1, code := object_method_1_code, exceptionTable := #[], attributes := #[] }
def k0m0 : Method := { name := "<init>", desc := "()V", sig := { parameters := [], returnType := none }, accessFlags := 1, code := some k0c0 }
/-- java/lang/Object -/
def k0 : Class := { plain "java/lang/Object" none with
  accessFlags := 33
  interfaces := #[]
  cf := some (fileOf pool0 8 #[] #[{ accessFlags := 1, nameIndex := 5, descriptorIndex := 6, attributes := #[] }] 33 0 #[] #[])
  fields := #[]
  methods := #[k0m0]
  instanceTypes := #[]
  staticTypes := #[]
  resolved := Array.replicate 124 none
  statics := none }

def pool1 : Array CpInfo := pool [(2, .class_ 4), (1, u "java/lang/Object"), (0, u "<init>"), (0, u "()V"), (0, .integer 2147483647), (0, .fieldref 9 10), (0, .class_ 11), (0, .nameAndType 12 13), (0, u "com/example/redoubt/redoubt/core/Direction"), (0, u "N"), (0, u "Lcom/example/redoubt/redoubt/core/Direction;"), (0, .fieldref 9 15), (0, .nameAndType 16 13), (0, u "NE"), (0, .fieldref 9 18), (0, .nameAndType 19 13), (0, u "SE"), (0, .fieldref 9 21), (0, .nameAndType 22 13), (0, u "S"), (0, .fieldref 9 24), (0, .nameAndType 25 13), (0, u "SW"), (0, .fieldref 9 27), (0, .nameAndType 28 13), (0, u "NW"), (0, .class_ 30), (0, u "com/example/redoubt/redoubt/core/Cell"), (0, .methodref 29 32), (0, .nameAndType 5 33), (0, u "(II)V"), (0, .methodref 29 35), (0, .nameAndType 36 37), (0, u "step"), (0, u "(Lcom/example/redoubt/redoubt/core/Direction;)Lcom/example/redoubt/redoubt/core/Cell;"), (0, .methodref 29 39), (0, .nameAndType 40 41), (0, u "q"), (0, u "()I"), (0, .methodref 29 43), (0, .nameAndType 44 41), (0, u "r"), (0, .class_ 46), (0, u "com/example/redoubt/redoubt/core/CellStepPinLaw"), (2, u "law"), (0, u "(III)Z")] 3

def k1m0 : Method := { name := "<init>", desc := "()V", sig := { parameters := [], returnType := none }, accessFlags := 1, code := none }
def k1c1 : Code := { maxStack := 4, maxLocals := 9, code := code, exceptionTable := #[], attributes := #[] }
def k1m1 : Method := { name := "law", desc := "(III)Z", sig := { parameters := [.int, .int, .int], returnType := some .boolean }, accessFlags := 9, code := some k1c1 }
/-- com/example/redoubt/redoubt/core/CellStepPinLaw -/
def k1 : Class := { plain "com/example/redoubt/redoubt/core/CellStepPinLaw" (some 0) with
  accessFlags := 49
  interfaces := #[]
  cf := some (fileOf pool1 45 #[] #[{ accessFlags := 1, nameIndex := 5, descriptorIndex := 6, attributes := #[] }, { accessFlags := 9, nameIndex := 49, descriptorIndex := 50, attributes := #[] }] 49 2 #[] #[])
  fields := #[]
  methods := #[k1m0, k1m1]
  instanceTypes := #[]
  staticTypes := #[]
  resolved := Array.replicate 54 none
  statics := none }

def pool2 : Array CpInfo := pool [(1, .class_ 2), (0, u "java/lang/constant/Constable"), (0, .class_ 4), (0, u "java/lang/Object")] 6

/-- java/lang/constant/Constable -/
def k2 : Class := { plain "java/lang/constant/Constable" (some 0) with
  accessFlags := 1537
  interfaces := #[]
  cf := some (fileOf pool2 1 #[] #[] 1537 3 #[] #[])
  fields := #[]
  methods := #[]
  instanceTypes := #[]
  staticTypes := #[]
  resolved := Array.replicate 11 none
  statics := none }

def pool3 : Array CpInfo := pool [(1, .class_ 2), (0, u "java/lang/Comparable"), (0, .class_ 4), (0, u "java/lang/Object")] 7

/-- java/lang/Comparable -/
def k3 : Class := { plain "java/lang/Comparable" (some 0) with
  accessFlags := 1537
  interfaces := #[]
  cf := some (fileOf pool3 1 #[] #[] 1537 3 #[] #[])
  fields := #[]
  methods := #[]
  instanceTypes := #[]
  staticTypes := #[]
  resolved := Array.replicate 12 none
  statics := none }

def pool4 : Array CpInfo := pool [(1, .class_ 2), (0, u "java/io/Serializable"), (0, .class_ 4), (0, u "java/lang/Object")] 2

/-- java/io/Serializable -/
def k4 : Class := { plain "java/io/Serializable" (some 0) with
  accessFlags := 1537
  interfaces := #[]
  cf := some (fileOf pool4 1 #[] #[] 1537 3 #[] #[])
  fields := #[]
  methods := #[]
  instanceTypes := #[]
  staticTypes := #[]
  resolved := Array.replicate 7 none
  statics := none }

def pool5 : Array CpInfo := pool [(2, .class_ 4), (1, u "java/lang/Enum"), (0, u "name"), (0, u "Ljava/lang/String;"), (2, u "ordinal"), (0, u "I"), (1, .class_ 14), (1, u "java/lang/Object"), (4, u "hash"), (86, .class_ 108), (1, u "java/lang/Enum$EnumDesc"), (2, .class_ 112), (0, u "java/lang/constant/Constable"), (0, .class_ 114), (0, u "java/lang/Comparable"), (0, .class_ 116), (0, u "java/io/Serializable")] 87

/-- java/lang/Enum -/
def k5 : Class := { plain "java/lang/Enum" (some 0) with
  accessFlags := 1057
  interfaces := #[2, 3, 4]
  cf := some (fileOf pool5 2 #[.nestMembers #[106]] #[] 1057 12 #[111, 113, 115] #[{ accessFlags := 18, nameIndex := 5, descriptorIndex := 6, attributes := #[] }, { accessFlags := 18, nameIndex := 9, descriptorIndex := 10, attributes := #[] }, { accessFlags := 2, nameIndex := 19, descriptorIndex := 10, attributes := #[] }])
  fields := #[{ name := "name", type := (.object "java/lang/String"), accessFlags := 18, slot := 0, constantValue := 0 }, { name := "ordinal", type := .int, accessFlags := 18, slot := 1, constantValue := 0 }, { name := "hash", type := .int, accessFlags := 2, slot := 2, constantValue := 0 }]
  methods := #[]
  instanceTypes := #[(.object "java/lang/String"), .int, .int]
  staticTypes := #[]
  resolved := Array.replicate 204 none
  statics := none }

def pool6 : Array CpInfo := pool [(1, .class_ 2), (0, u "com/example/redoubt/redoubt/core/Direction"), (2, u "N"), (0, u "Lcom/example/redoubt/redoubt/core/Direction;"), (2, u "NE"), (2, u "SE"), (2, u "S"), (2, u "SW"), (2, u "NW"), (2, u "$VALUES"), (0, u "[Lcom/example/redoubt/redoubt/core/Direction;"), (6, .class_ 34), (1, u "java/lang/Enum"), (6, .fieldref 1 42), (0, .nameAndType 43 44), (0, u "dq"), (0, u "I"), (0, .fieldref 1 46), (0, .nameAndType 47 44), (0, u "dr"), (11, u "()I")] 31

def k6c0 : Code := { maxStack := 1, maxLocals := 1, code := prog_7_method_4_code, exceptionTable := #[], attributes := #[] }
def k6m0 : Method := { name := "dq", desc := "()I", sig := { parameters := [], returnType := some .int }, accessFlags := 1, code := some k6c0 }
def k6c1 : Code := { maxStack := 1, maxLocals := 1, code := prog_7_method_5_code, exceptionTable := #[], attributes := #[] }
def k6m1 : Method := { name := "dr", desc := "()I", sig := { parameters := [], returnType := some .int }, accessFlags := 1, code := some k6c1 }
/-- com/example/redoubt/redoubt/core/Direction -/
def k6 : Class := { plain "com/example/redoubt/redoubt/core/Direction" (some 5) with
  accessFlags := 16433
  interfaces := #[]
  cf := some (fileOf pool6 1 #[] #[{ accessFlags := 1, nameIndex := 43, descriptorIndex := 59, attributes := #[] }, { accessFlags := 1, nameIndex := 47, descriptorIndex := 59, attributes := #[] }] 16433 32 #[] #[{ accessFlags := 16409, nameIndex := 5, descriptorIndex := 6, attributes := #[] }, { accessFlags := 16409, nameIndex := 9, descriptorIndex := 6, attributes := #[] }, { accessFlags := 16409, nameIndex := 12, descriptorIndex := 6, attributes := #[] }, { accessFlags := 16409, nameIndex := 15, descriptorIndex := 6, attributes := #[] }, { accessFlags := 16409, nameIndex := 18, descriptorIndex := 6, attributes := #[] }, { accessFlags := 16409, nameIndex := 21, descriptorIndex := 6, attributes := #[] }, { accessFlags := 18, nameIndex := 43, descriptorIndex := 44, attributes := #[] }, { accessFlags := 18, nameIndex := 47, descriptorIndex := 44, attributes := #[] }, { accessFlags := 4122, nameIndex := 24, descriptorIndex := 25, attributes := #[] }])
  fields := #[{ name := "N", type := (.object "com/example/redoubt/redoubt/core/Direction"), accessFlags := 16409, slot := 0, constantValue := 0 }, { name := "NE", type := (.object "com/example/redoubt/redoubt/core/Direction"), accessFlags := 16409, slot := 1, constantValue := 0 }, { name := "SE", type := (.object "com/example/redoubt/redoubt/core/Direction"), accessFlags := 16409, slot := 2, constantValue := 0 }, { name := "S", type := (.object "com/example/redoubt/redoubt/core/Direction"), accessFlags := 16409, slot := 3, constantValue := 0 }, { name := "SW", type := (.object "com/example/redoubt/redoubt/core/Direction"), accessFlags := 16409, slot := 4, constantValue := 0 }, { name := "NW", type := (.object "com/example/redoubt/redoubt/core/Direction"), accessFlags := 16409, slot := 5, constantValue := 0 }, { name := "dq", type := .int, accessFlags := 18, slot := 3, constantValue := 0 }, { name := "dr", type := .int, accessFlags := 18, slot := 4, constantValue := 0 }, { name := "$VALUES", type := (.array (.object "com/example/redoubt/redoubt/core/Direction")), accessFlags := 4122, slot := 6, constantValue := 0 }]
  methods := #[k6m0, k6m1]
  instanceTypes := #[(.object "java/lang/String"), .int, .int, .int, .int]
  staticTypes := #[(.object "com/example/redoubt/redoubt/core/Direction"), (.object "com/example/redoubt/redoubt/core/Direction"), (.object "com/example/redoubt/redoubt/core/Direction"), (.object "com/example/redoubt/redoubt/core/Direction"), (.object "com/example/redoubt/redoubt/core/Direction"), (.object "com/example/redoubt/redoubt/core/Direction"), (.array (.object "com/example/redoubt/redoubt/core/Direction"))]
  resolved := Array.replicate 91 none
  statics := some 0 }

def pool7 : Array CpInfo := pool [(1, .methodref 2 3), (0, .class_ 4), (0, .nameAndType 5 6), (0, u "java/lang/Object"), (0, u "<init>"), (0, u "()V"), (0, .class_ 8), (0, u "java/lang/Record")] 13

def k7c0 : Code := { maxStack := 1, maxLocals := 1, code := jdk_30_method_1_code, exceptionTable := #[], attributes := #[] }
def k7m0 : Method := { name := "<init>", desc := "()V", sig := { parameters := [], returnType := none }, accessFlags := 4, code := some k7c0 }
/-- java/lang/Record -/
def k7 : Class := { plain "java/lang/Record" (some 0) with
  accessFlags := 1057
  interfaces := #[]
  cf := some (fileOf pool7 7 #[] #[{ accessFlags := 4, nameIndex := 5, descriptorIndex := 6, attributes := #[] }] 1057 2 #[] #[])
  fields := #[]
  methods := #[k7m0]
  instanceTypes := #[]
  staticTypes := #[]
  resolved := Array.replicate 22 none
  statics := none }

def pool8 : Array CpInfo := pool [(1, .methodref 2 3), (0, .class_ 4), (0, .nameAndType 5 6), (0, u "java/lang/Record"), (0, u "<init>"), (0, u "()V"), (0, .fieldref 8 9), (0, .class_ 10), (0, .nameAndType 11 12), (0, u "com/example/redoubt/redoubt/core/Cell"), (0, u "q"), (0, u "I"), (0, .fieldref 8 14), (0, .nameAndType 15 12), (0, u "r"), (0, .methodref 17 18), (0, .class_ 19), (0, .nameAndType 20 21), (0, u "com/example/redoubt/redoubt/core/Direction"), (0, u "dq"), (0, u "()I"), (0, .methodref 17 23), (0, .nameAndType 24 21), (0, u "dr"), (0, .methodref 8 26), (0, .nameAndType 5 27), (0, u "(II)V"), (15, u "step"), (0, u "(Lcom/example/redoubt/redoubt/core/Direction;)Lcom/example/redoubt/redoubt/core/Cell;")] 23

def k8c0 : Code := { maxStack := 2, maxLocals := 3, code := prog_4_method_1_code, exceptionTable := #[], attributes := #[] }
def k8m0 : Method := { name := "<init>", desc := "(II)V", sig := { parameters := [.int, .int], returnType := none }, accessFlags := 1, code := some k8c0 }
def k8c1 : Code := { maxStack := 5, maxLocals := 2, code := prog_4_method_2_code, exceptionTable := #[], attributes := #[] }
def k8m1 : Method := { name := "step", desc := "(Lcom/example/redoubt/redoubt/core/Direction;)Lcom/example/redoubt/redoubt/core/Cell;", sig := { parameters := [(.object "com/example/redoubt/redoubt/core/Direction")], returnType := some (.object "com/example/redoubt/redoubt/core/Cell") }, accessFlags := 1, code := some k8c1 }
def k8c2 : Code := { maxStack := 1, maxLocals := 1, code := prog_4_method_6_code, exceptionTable := #[], attributes := #[] }
def k8m2 : Method := { name := "q", desc := "()I", sig := { parameters := [], returnType := some .int }, accessFlags := 1, code := some k8c2 }
def k8c3 : Code := { maxStack := 1, maxLocals := 1, code := prog_4_method_7_code, exceptionTable := #[], attributes := #[] }
def k8m3 : Method := { name := "r", desc := "()I", sig := { parameters := [], returnType := some .int }, accessFlags := 1, code := some k8c3 }
/-- com/example/redoubt/redoubt/core/Cell -/
def k8 : Class := { plain "com/example/redoubt/redoubt/core/Cell" (some 7) with
  accessFlags := 49
  interfaces := #[]
  cf := some (fileOf pool8 8 #[] #[{ accessFlags := 1, nameIndex := 5, descriptorIndex := 27, attributes := #[] }, { accessFlags := 1, nameIndex := 43, descriptorIndex := 44, attributes := #[] }, { accessFlags := 1, nameIndex := 11, descriptorIndex := 21, attributes := #[] }, { accessFlags := 1, nameIndex := 15, descriptorIndex := 21, attributes := #[] }] 49 2 #[] #[{ accessFlags := 18, nameIndex := 11, descriptorIndex := 12, attributes := #[] }, { accessFlags := 18, nameIndex := 15, descriptorIndex := 12, attributes := #[] }])
  fields := #[{ name := "q", type := .int, accessFlags := 18, slot := 0, constantValue := 0 }, { name := "r", type := .int, accessFlags := 18, slot := 1, constantValue := 0 }]
  methods := #[k8m0, k8m1, k8m2, k8m3]
  instanceTypes := #[.int, .int]
  staticTypes := #[]
  resolved := Array.replicate 68 none
  statics := none }

def pool9 : Array CpInfo := pool [(1, u "java/lang/Cloneable"), (0, .class_ 1), (0, u "java/lang/Object"), (0, .class_ 3)] 3

/-- java/lang/Cloneable -/
def k9 : Class := { plain "java/lang/Cloneable" (some 0) with
  accessFlags := 1537
  interfaces := #[]
  cf := some (fileOf pool9 2 #[] #[] 1537 4 #[] #[])
  fields := #[]
  methods := #[]
  instanceTypes := #[]
  staticTypes := #[]
  resolved := Array.replicate 8 none
  statics := none }

/-- the primitive byte -/
def k10 : Class := { plain "byte" none with kind := .primitive 'B', accessFlags := 0x411 }
/-- [B -/
def k11 : Class := { plain "[B" (some 0) with kind := .array 10 .byte, interfaces := #[9, 4], accessFlags := 1041 }

/-- the primitive int -/
def k12 : Class := { plain "int" none with kind := .primitive 'I', accessFlags := 0x411 }
/-- [I -/
def k13 : Class := { plain "[I" (some 0) with kind := .array 12 .int, interfaces := #[9, 4], accessFlags := 1041 }

def heap : Heap := #[{ cls := 6, slots := #[.ref 5, .ref 3, .ref 1, .ref 2, .ref 6, .ref 4, .null], vm := .statics 6 },
  { cls := 6, slots := #[.null, .int 0, .int 0, .int 1, .int 0], vm := .none },
  { cls := 6, slots := #[.null, .int 0, .int 0, .int 0, .int 1], vm := .none },
  { cls := 6, slots := #[.null, .int 0, .int 0, .int 1, .int (-1)], vm := .none },
  { cls := 6, slots := #[.null, .int 0, .int 0, .int (-1), .int 0], vm := .none },
  { cls := 6, slots := #[.null, .int 0, .int 0, .int 0, .int (-1)], vm := .none },
  { cls := 6, slots := #[.null, .int 0, .int 0, .int (-1), .int 1], vm := .none }]
def classes : Array Class := #[k0, k1, k2, k3, k4, k5, k6, k7, k8, k9, k10, k11, k12, k13]
def interned : List (Array UInt16 × Addr) := []
def slotsUsed : Nat := 37
def theMethod : MethodId := ⟨1, 1⟩
def args0 : Array Value := #[.int 1, .int 2, .int 3]
def aboutOver (below : List Frame) : State where
  vm := { classes := classes, interned := interned.toArray }
  heap := heap
  slotsUsed := slotsUsed
  threads := #[{ frames := .invoking theMethod args0 :: below }]
def below0 : List Frame := [.native { method := ⟨0, 0⟩, args := #[] }]
def about1 : State := aboutOver below0
def p0 : Program := .bare "" "" ""
def e0 : Env := launch0.env 0 0 0
theorem w_frames : about1.frames = Frame.invoking theMethod args0 :: below0 := rfl
set_option maxRecDepth 65536 in
theorem w_args : argsFit about1.vm theMethod args0 = true := by decide +kernel
set_option maxRecDepth 65536 in
theorem w_heap : heapFits about1 = true := by decide +kernel
set_option maxRecDepth 65536 in
theorem w_runnable : about1.curStatus? = some .runnable := by decide +kernel
set_option maxRecDepth 65536 in
theorem w_alone : about1.alone = true := by decide +kernel
set_option maxRecDepth 65536 in
theorem w_named : about1.methodNamed? x = some theMethod := by decide +kernel
set_option maxRecDepth 65536 in
theorem w_hears : about1.hears theMethod below0 = true := by decide +kernel
set_option maxRecDepth 65536 in
theorem w_ripe : about1.ripe theMethod args0 below0 = true := by decide +kernel
theorem w_running : about1.status = .running := rfl
set_option maxRecDepth 65536 in
theorem w_room : about1.hasRoom e0.platform room_1 = true :=
  launch0.hasRoom_least _ room_1 (by decide +kernel) (by decide +kernel) (by decide +kernel) (by decide +kernel) (by decide +kernel) (by decide +kernel)
theorem allAtoms_all (ts : List Jvm.Cond) (a : Array Jvm.Value) (st : Jvm.State) : (allAtoms ts).before a st = ts.all (fun c => c.before a st) := by
  induction ts with
  | nil => rfl
  | cons c t ih =>
    show (Jvm.Cond.and c (allAtoms t)).before a st = _
    rw [Jvm.Cond.before_and, ih, List.all_cons]
def words1 : List Jvm.Cond := Jvm.Cond.code x code maxLocals ret :: tables_1
/-- a 'code' word, met by the world's own term for the bytes: nothing is compared byte by byte -/
theorem code_word {y : MethodName} {bytes : ByteArray} {mx : Nat} {rt : Option FieldType} {a : Array Value} {s : State} {m : MethodId} {meth : Method} {c : Code} (h1 : s.methodNamed? y = some m) (h2 : s.vm.method? m = some meth) (h3 : meth.code = some c) (h4 : c.code = bytes)
    (h5 : (c.maxLocals == mx && c.exceptionTable.isEmpty && decide (c.maxStack ≤ mostOperands) && decide (meth.sig.returnType = rt) && !meth.locks && decide (parseMethodDescriptor y.desc = some meth.sig)) = true) : (Jvm.Cond.code y bytes mx rt).before a s = true := by
  simp only [Bool.and_eq_true, beq_iff_eq, Bool.not_eq_true', decide_eq_true_eq] at h5
  obtain ⟨⟨⟨⟨⟨g1, g2⟩, g3⟩, g4⟩, g5⟩, g6⟩ := h5
  simp [Cond.before, Cond.holds, Cond.value, h1, h2, h3, h4, g1, g2, g3, g4, g5, g6]
def isCode : Jvm.Cond → Bool
  | .code _ _ _ _ => true
  | _ => false
theorem all_split {L : List Jvm.Cond} {P : Jvm.Cond → Bool} (h1 : L.all (fun c => isCode c || P c) = true) (h2 : ∀ c ∈ L.filter isCode, P c = true) : L.all P = true := by
  refine List.all_eq_true.mpr fun c hc => ?_
  have h := List.all_eq_true.mp h1 c hc
  rcases Bool.eq_false_or_eq_true (isCode c) with hi | hi
  · exact h2 c (List.mem_filter.mpr ⟨hc, hi⟩)
  · simpa [hi] using h
set_option maxRecDepth 65536 in
theorem w_c0 : (Jvm.Cond.code x code maxLocals ret).before args0 about1 = true := code_word (m := ⟨1, 1⟩) (meth := k1m1) (c := k1c1) (by decide +kernel) rfl rfl rfl (by decide +kernel)
set_option maxRecDepth 65536 in
theorem w_c1 : (Jvm.Cond.code ({ cls := "com/example/redoubt/redoubt/core/Cell", name := "<init>", desc := "(II)V" } : Jvm.MethodName) prog_4_method_1_code (3 : Nat) (Option.none : Option Jvm.ClassFile.FieldType)).before args0 about1 = true := code_word (m := ⟨8, 0⟩) (meth := k8m0) (c := k8c0) (by decide +kernel) rfl rfl rfl (by decide +kernel)
set_option maxRecDepth 65536 in
theorem w_c2 : (Jvm.Cond.code ({ cls := "java/lang/Record", name := "<init>", desc := "()V" } : Jvm.MethodName) jdk_30_method_1_code (1 : Nat) (Option.none : Option Jvm.ClassFile.FieldType)).before args0 about1 = true := code_word (m := ⟨7, 0⟩) (meth := k7m0) (c := k7c0) (by decide +kernel) rfl rfl rfl (by decide +kernel)
set_option maxRecDepth 65536 in
theorem w_c3 : (Jvm.Cond.code ({ cls := "java/lang/Object", name := "<init>", desc := "()V" } : Jvm.MethodName) object_method_1_code (1 : Nat) (Option.none : Option Jvm.ClassFile.FieldType)).before args0 about1 = true := code_word (m := ⟨0, 0⟩) (meth := k0m0) (c := k0c0) (by decide +kernel) rfl rfl rfl (by decide +kernel)
set_option maxRecDepth 65536 in
theorem w_c4 : (Jvm.Cond.code ({ cls := "com/example/redoubt/redoubt/core/Cell", name := "step", desc := "(Lcom/example/redoubt/redoubt/core/Direction;)Lcom/example/redoubt/redoubt/core/Cell;" } : Jvm.MethodName) prog_4_method_2_code (2 : Nat) (Option.some (Jvm.ClassFile.FieldType.object "com/example/redoubt/redoubt/core/Cell"))).before args0 about1 = true := code_word (m := ⟨8, 1⟩) (meth := k8m1) (c := k8c1) (by decide +kernel) rfl rfl rfl (by decide +kernel)
set_option maxRecDepth 65536 in
theorem w_c5 : (Jvm.Cond.code ({ cls := "com/example/redoubt/redoubt/core/Direction", name := "dq", desc := "()I" } : Jvm.MethodName) prog_7_method_4_code (1 : Nat) (Option.some Jvm.ClassFile.FieldType.int)).before args0 about1 = true := code_word (m := ⟨6, 0⟩) (meth := k6m0) (c := k6c0) (by decide +kernel) rfl rfl rfl (by decide +kernel)
set_option maxRecDepth 65536 in
theorem w_c6 : (Jvm.Cond.code ({ cls := "com/example/redoubt/redoubt/core/Direction", name := "dr", desc := "()I" } : Jvm.MethodName) prog_7_method_5_code (1 : Nat) (Option.some Jvm.ClassFile.FieldType.int)).before args0 about1 = true := code_word (m := ⟨6, 1⟩) (meth := k6m1) (c := k6c1) (by decide +kernel) rfl rfl rfl (by decide +kernel)
set_option maxRecDepth 65536 in
theorem w_c7 : (Jvm.Cond.code ({ cls := "com/example/redoubt/redoubt/core/Cell", name := "q", desc := "()I" } : Jvm.MethodName) prog_4_method_6_code (1 : Nat) (Option.some Jvm.ClassFile.FieldType.int)).before args0 about1 = true := code_word (m := ⟨8, 2⟩) (meth := k8m2) (c := k8c2) (by decide +kernel) rfl rfl rfl (by decide +kernel)
set_option maxRecDepth 65536 in
theorem w_c8 : (Jvm.Cond.code ({ cls := "com/example/redoubt/redoubt/core/Cell", name := "r", desc := "()I" } : Jvm.MethodName) prog_4_method_7_code (1 : Nat) (Option.some Jvm.ClassFile.FieldType.int)).before args0 about1 = true := code_word (m := ⟨8, 3⟩) (meth := k8m3) (c := k8c3) (by decide +kernel) rfl rfl rfl (by decide +kernel)
def codes1 : List Jvm.Cond := [Jvm.Cond.code x code maxLocals ret, Jvm.Cond.code ({ cls := "com/example/redoubt/redoubt/core/Cell", name := "<init>", desc := "(II)V" } : Jvm.MethodName) prog_4_method_1_code (3 : Nat) (Option.none : Option Jvm.ClassFile.FieldType), Jvm.Cond.code ({ cls := "java/lang/Record", name := "<init>", desc := "()V" } : Jvm.MethodName) jdk_30_method_1_code (1 : Nat) (Option.none : Option Jvm.ClassFile.FieldType), Jvm.Cond.code ({ cls := "java/lang/Object", name := "<init>", desc := "()V" } : Jvm.MethodName) object_method_1_code (1 : Nat) (Option.none : Option Jvm.ClassFile.FieldType), Jvm.Cond.code ({ cls := "com/example/redoubt/redoubt/core/Cell", name := "step", desc := "(Lcom/example/redoubt/redoubt/core/Direction;)Lcom/example/redoubt/redoubt/core/Cell;" } : Jvm.MethodName) prog_4_method_2_code (2 : Nat) (Option.some (Jvm.ClassFile.FieldType.object "com/example/redoubt/redoubt/core/Cell")), Jvm.Cond.code ({ cls := "com/example/redoubt/redoubt/core/Direction", name := "dq", desc := "()I" } : Jvm.MethodName) prog_7_method_4_code (1 : Nat) (Option.some Jvm.ClassFile.FieldType.int), Jvm.Cond.code ({ cls := "com/example/redoubt/redoubt/core/Direction", name := "dr", desc := "()I" } : Jvm.MethodName) prog_7_method_5_code (1 : Nat) (Option.some Jvm.ClassFile.FieldType.int), Jvm.Cond.code ({ cls := "com/example/redoubt/redoubt/core/Cell", name := "q", desc := "()I" } : Jvm.MethodName) prog_4_method_6_code (1 : Nat) (Option.some Jvm.ClassFile.FieldType.int), Jvm.Cond.code ({ cls := "com/example/redoubt/redoubt/core/Cell", name := "r", desc := "()I" } : Jvm.MethodName) prog_4_method_7_code (1 : Nat) (Option.some Jvm.ClassFile.FieldType.int)]
set_option maxRecDepth 65536 in
theorem codes_eq : words1.filter isCode = codes1 := rfl
theorem w_codes : ∀ c ∈ words1.filter isCode, c.before args0 about1 = true := by
  rw [codes_eq]
  intro c hc
  simp only [codes1, List.mem_cons, List.not_mem_nil, or_false] at hc
  rcases hc with rfl | rfl | rfl | rfl | rfl | rfl | rfl | rfl | rfl
  · exact w_c0
  · exact w_c1
  · exact w_c2
  · exact w_c3
  · exact w_c4
  · exact w_c5
  · exact w_c6
  · exact w_c7
  · exact w_c8
set_option maxRecDepth 65536 in
theorem w_t1 : (words1.take 24).all (fun c => isCode c || c.before args0 about1) = true := by decide +kernel
set_option maxRecDepth 65536 in
theorem w_t2 : ((words1.drop 24).take 24).all (fun c => isCode c || c.before args0 about1) = true := by decide +kernel
set_option maxRecDepth 65536 in
theorem w_t3 : ((words1.drop 24).drop 24).all (fun c => isCode c || c.before args0 about1) = true := by decide +kernel
theorem w_tables : (allAtoms (Jvm.Cond.code x code maxLocals ret :: tables_1)).before args0 about1 = true := by
  rw [allAtoms_all]
  show words1.all (fun c => c.before args0 about1) = true
  refine all_split ?_ w_codes
  rw [← List.take_append_drop 24 words1, List.all_append, w_t1, ← List.take_append_drop 24 (words1.drop 24), List.all_append, w_t2, w_t3]
  rfl
set_option maxRecDepth 65536 in
theorem w_case : (Jvm.Cond.and given_1 narrow_1).before args0 about1 = true := by decide +kernel
theorem w_applies : (headSpec (Jvm.Cond.code x code maxLocals ret :: tables_1) room_1).applies x e0.platform about1 = true :=
  (Spec.applies_iff w_frames).mpr ⟨w_running, w_runnable, w_alone, w_named, w_hears, w_ripe, w_room, w_tables⟩
theorem atStart : AtStart classFile x code maxLocals ret World_1 tables_1 room_1 Calls_1 rest_1 Pre_1 launch0 p0 e0 about1 theMethod args0 below0 :=
  ⟨lists_1, trivial, launch0.admits_env _ _ _, launch0.least_env, fairChoices_fair.cas, fairChoices_fair.clock, w_frames, w_args, w_heap, w_applies, trivial, trivial, w_case⟩
end start1
theorem witness_1 : WitnessClaimed_1 := ⟨start1.p0, start1.e0, start1.about1, start1.theMethod, start1.args0, start1.below0, start1.atStart⟩
end Jvm.Pilot.@@N@@
