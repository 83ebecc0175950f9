import JvmDerived
import JvmDerived.Pilot.@@N@@Statement
import JvmDerived.Pilot.@@N@@Code
set_option linter.unusedVariables false
set_option linter.unusedSimpArgs false
namespace Jvm.Pilot.@@N@@
open Jvm Jvm.ClassFile Sem Op Lib Jvm.Free Jvm.Stand Jvm.LawKit Jvm.RoadKit Bundle Jvm.Pilot.@@N@@.Jvm.D
/-! 0. the walk's goal, and how a step leads to it -/
def OGoal (p : Program) (e : Env) (below : List Frame) (Φ : Outcome → State → Prop) (T : State) (g : JFrame) : Prop :=
  ∃ s₂ o, Steps p.tables e below (T.setTop g) s₂ ∧ s₂.status = .running ∧ Ended s₂ below o ∧ Φ o s₂
theorem own_by {p : Program} {e : Env} {below : List Frame} {Φ : Outcome → State → Prop} {T T' : State} {g g' : JFrame}
    (st : ∀ t, Steps p.tables e below (T'.setTop g') t → Steps p.tables e below (T.setTop g) t) (G : OGoal p e below Φ T' g') : OGoal p e below Φ T g := by
  obtain ⟨s₂, o, h1, h2⟩ := G
  exact ⟨s₂, o, st _ h1, h2⟩
theorem own_enter {p : Program} {e : Env} {below : List Frame} {Φ : Outcome → State → Prop} {T : State} {g g' : JFrame} (q : g = g') (G : OGoal p e below Φ T g') :
    ∃ s₂ o, Steps p.tables e below (T.setTop g) s₂ ∧ s₂.status = .running ∧ Ended s₂ below o ∧ Φ o s₂ := by subst q; exact G
theorem own_kext {h h' : Heap} (E : Ext h h') : Keep h h' [] := (Keep.refl h []).ext E
theorem own_narR {ty : FieldType} {v : Value} (hty : ty.isReference = true) (h : v.isRef = true) : narrow ty v = v := by
  rcases ref_cases h with rfl | ⟨a, rfl⟩ <;> cases ty <;> first | rfl | (cases hty)
theorem own_fitR {ty : FieldType} {v : Value} (hty : ty.isReference = true) (h : v.isRef = true) : fits ty v = true := by
  rcases ref_cases h with rfl | ⟨a, rfl⟩ <;> cases ty <;> first | rfl | (cases hty)
theorem own_narC (x : Int32) : nar .char (x.toUInt32.toUInt16.toUInt32.toInt32) = x.toUInt32.toUInt16.toUInt32.toInt32 := by
  show (x.toUInt32.toUInt16.toUInt32.toInt32).toUInt32.toUInt16.toUInt32.toInt32 = _
  simp only [UInt32.toUInt32_toInt32, UInt16.toUInt16_toUInt32]
theorem own_narB (x : Int32) : nar .byte (x.toInt8.toInt32) = x.toInt8.toInt32 := by
  show (x.toInt8.toInt32).toInt8.toInt32 = _
  simp
theorem own_fldI {Z : State} {args : Array Value} {t : Term} {a : Addr} {C n d : String} {k : Int32} (ev : t.eval args Z none [] Z = some (.ref a)) (h : (Jvm.Cond.eq (.field t C n d) (.int k)).value args Z none Z [] = some true) : Fld Z Z.heap a C n d (.int k) :=
  Fld.start ((fld_at ev).symm.trans (eqv_i (Term.int_eval k) h))
theorem own_fldJ {Z : State} {args : Array Value} {t : Term} {a : Addr} {C n d : String} {k : Int64} (ev : t.eval args Z none [] Z = some (.ref a)) (h : (Jvm.Cond.eq (.field t C n d) (.long k)).value args Z none Z [] = some true) : Fld Z Z.heap a C n d (.long k) :=
  Fld.start ((fld_at ev).symm.trans (eqv_l (F := .long k) rfl h))
def Glob (Z : State) (w0 : Addr) (w1 : Addr) (w2 : Addr) (w3 : Addr) (w4 : Addr) (w5 : Addr) (w6 : Addr) (w7 : Addr) (w8 : Addr) (k0 : Addr) (k1 : Addr) : Prop := Sta Z Z.heap "com/example/serialyze/serialyze/engine/explore/Program$Op" "ACCESS" "Lcom/example/serialyze/serialyze/engine/explore/Program$Op;" (.ref w0) ∧ Exa Z Z.heap w0 "com/example/serialyze/serialyze/engine/explore/Program$Op" ∧ Sta Z Z.heap "com/example/serialyze/serialyze/engine/explore/Program$Op" "ACQUIRE" "Lcom/example/serialyze/serialyze/engine/explore/Program$Op;" (.ref w1) ∧ Exa Z Z.heap w1 "com/example/serialyze/serialyze/engine/explore/Program$Op" ∧ Sta Z Z.heap "com/example/serialyze/serialyze/engine/explore/Program$Op" "RELEASE" "Lcom/example/serialyze/serialyze/engine/explore/Program$Op;" (.ref w2) ∧ Exa Z Z.heap w2 "com/example/serialyze/serialyze/engine/explore/Program$Op" ∧ Sta Z Z.heap "com/example/serialyze/serialyze/engine/explore/Program$Op" "START" "Lcom/example/serialyze/serialyze/engine/explore/Program$Op;" (.ref w3) ∧ Exa Z Z.heap w3 "com/example/serialyze/serialyze/engine/explore/Program$Op" ∧ Sta Z Z.heap "com/example/serialyze/serialyze/engine/explore/Program$Op" "ENTER_UNIT" "Lcom/example/serialyze/serialyze/engine/explore/Program$Op;" (.ref w4) ∧ Exa Z Z.heap w4 "com/example/serialyze/serialyze/engine/explore/Program$Op" ∧ Sta Z Z.heap "com/example/serialyze/serialyze/engine/explore/Program$Op" "EXIT_UNIT" "Lcom/example/serialyze/serialyze/engine/explore/Program$Op;" (.ref w5) ∧ Exa Z Z.heap w5 "com/example/serialyze/serialyze/engine/explore/Program$Op" ∧ Sta Z Z.heap "com/example/serialyze/serialyze/engine/explore/Program$Op" "BRANCH" "Lcom/example/serialyze/serialyze/engine/explore/Program$Op;" (.ref w6) ∧ Exa Z Z.heap w6 "com/example/serialyze/serialyze/engine/explore/Program$Op" ∧ Sta Z Z.heap "com/example/serialyze/serialyze/engine/explore/Program$Op" "CALL" "Lcom/example/serialyze/serialyze/engine/explore/Program$Op;" (.ref w7) ∧ Exa Z Z.heap w7 "com/example/serialyze/serialyze/engine/explore/Program$Op" ∧ Sta Z Z.heap "com/example/serialyze/serialyze/engine/explore/Program$Op" "RETURN" "Lcom/example/serialyze/serialyze/engine/explore/Program$Op;" (.ref w8) ∧ Exa Z Z.heap w8 "com/example/serialyze/serialyze/engine/explore/Program$Op" ∧ Sta Z Z.heap "com/example/serialyze/serialyze/engine/model/AccessKind" "READ" "Lcom/example/serialyze/serialyze/engine/model/AccessKind;" (.ref k0) ∧ Exa Z Z.heap k0 "com/example/serialyze/serialyze/engine/model/AccessKind" ∧ Sta Z Z.heap "com/example/serialyze/serialyze/engine/model/AccessKind" "WRITE" "Lcom/example/serialyze/serialyze/engine/model/AccessKind;" (.ref k1) ∧ Exa Z Z.heap k1 "com/example/serialyze/serialyze/engine/model/AccessKind"
theorem own_mod (k d : Int32) (D : Int) (hd : d.toInt = D) (h0 : 0 < D) : 0 ≤ ((k &&& (2147483647 : Int32)) % d).toInt ∧ ((k &&& (2147483647 : Int32)) % d).toInt < D := by
  have h1 := c_mask k (2147483647 : Int32) 31 (by decide) (by decide)
  have h2 := c_irem (k &&& (2147483647 : Int32)) d D hd
  have h3 : 0 ≤ (k &&& (2147483647 : Int32)).toInt := by rw [h1]; exact Int.emod_nonneg _ (by decide)
  rw [h2.1 h3]
  exact ⟨Int.emod_nonneg _ (by omega), Int.emod_lt_of_pos _ h0⟩
theorem own_ten (s : Int32) (h : 0 ≤ s.toInt ∧ s.toInt < 10) : s = 0 ∨ s = 1 ∨ s = 2 ∨ s = 3 ∨ s = 4 ∨ s = 5 ∨ s = 6 ∨ s = 7 ∨ s = 8 ∨ s = 9 := by
  simp only [← Int32.toInt_inj]
  have e0 : (0 : Int32).toInt = 0 := rfl
  have e1 : (1 : Int32).toInt = 1 := rfl
  have e2 : (2 : Int32).toInt = 2 := rfl
  have e3 : (3 : Int32).toInt = 3 := rfl
  have e4 : (4 : Int32).toInt = 4 := rfl
  have e5 : (5 : Int32).toInt = 5 := rfl
  have e6 : (6 : Int32).toInt = 6 := rfl
  have e7 : (7 : Int32).toInt = 7 := rfl
  have e8 : (8 : Int32).toInt = 8 := rfl
  have e9 : (9 : Int32).toInt = 9 := rfl
  omega
theorem own_three (s : Int32) (h : 0 ≤ s.toInt ∧ s.toInt < 3) : s = 0 ∨ s = 1 ∨ s = 2 := by
  simp only [← Int32.toInt_inj]
  have e0 : (0 : Int32).toInt = 0 := rfl
  have e1 : (1 : Int32).toInt = 1 := rfl
  have e2 : (2 : Int32).toInt = 2 := rfl
  omega
theorem own_inb (s n : Int32) (N : Int) (hn : n.toInt = N) (h : 0 ≤ s.toInt ∧ s.toInt < N) : ¬ s < 0 ∧ s < n := by
  rw [Int32.lt_iff_toInt_lt, Int32.lt_iff_toInt_lt, hn, show (0 : Int32).toInt = 0 from rfl]; omega
theorem own_opR (w0 w1 w2 w3 w4 w5 w6 w7 w8 : Addr) (s : Int32) (h : 0 ≤ s.toInt ∧ s.toInt < 10) : (List.getD [(Value.ref w0), (Value.ref w1), (Value.ref w2), (Value.ref w3), (Value.ref w4), (Value.ref w5), (Value.ref w6), (Value.ref w7), (Value.ref w8), Value.null] (s).toNatClampNeg Value.null).isRef = true := by
  rcases own_ten s h with rfl | rfl | rfl | rfl | rfl | rfl | rfl | rfl | rfl | rfl <;> rfl
theorem own_opN (w0 w1 w2 w3 w4 w5 w6 w7 w8 : Addr) (s : Int32) (h : 0 ≤ s.toInt ∧ s.toInt < 10) : List.getD [(Value.ref w0), (Value.ref w1), (Value.ref w2), (Value.ref w3), (Value.ref w4), (Value.ref w5), (Value.ref w6), (Value.ref w7), (Value.ref w8), Value.null] (s).toNatClampNeg Value.null = Value.null ↔ s = (9 : Int32) := by
  rcases own_ten s h with rfl | rfl | rfl | rfl | rfl | rfl | rfl | rfl | rfl | rfl
  all_goals first | exact ⟨fun q => (by cases q), fun q => absurd q (by decide)⟩ | exact ⟨fun _ => rfl, fun _ => rfl⟩
theorem own_kR (k0 k1 : Addr) (s : Int32) (h : 0 ≤ s.toInt ∧ s.toInt < 3) : (List.getD [(Value.ref k0), (Value.ref k1), Value.null] (s).toNatClampNeg Value.null).isRef = true := by
  rcases own_three s h with rfl | rfl | rfl <;> rfl
theorem own_d2_0 : decode jdk_30_method_1_code 0 = .ok (.aload_n 0, 1) := by decide +kernel
theorem own_d2_1 : decode jdk_30_method_1_code 1 = .ok (.invokespecial 1, 3) := by decide +kernel
theorem own_d2_4 : decode jdk_30_method_1_code 4 = .ok (.return_, 1) := by decide +kernel
theorem own_pn_java_lang_Record : plainName "java/lang/Record" = true := by first | (simp [plainName, overriddenIn]; done) | decide +kernel
theorem own_ef_rmRec (m : MethodId) (x0 : Addr) : entryFrame m #[(.ref x0)] 1 = mkF m 0 #[.val (.ref x0)] [] := by first | (simp [entryFrame, mkF, argsToLocals, Value.category]; done) | rfl
def Q_rmRec (Z : State) (w0 : Addr) (w1 : Addr) (w2 : Addr) (w3 : Addr) (w4 : Addr) (w5 : Addr) (w6 : Addr) (w7 : Addr) (w8 : Addr) (k0 : Addr) (k1 : Addr) (a : Addr) (h0 : Heap) (n0 : Nat) (vv_ : Option Value) (hh_ : Heap) (LL_ : List Loc) : Prop := vv_ = none ∧ Fr n0 LL_ ∧ hh_ = h0
set_option maxRecDepth 65536 in
set_option maxHeartbeats 40000000 in
theorem rmRec (l : Launch) (Z : State) (a0 : Array Value) (hw : ∀ d ∈ tables_1, d.before a0 Z = true) (ws : List Jvm.Cond) (w0 : Addr) (w1 : Addr) (w2 : Addr) (w3 : Addr) (w4 : Addr) (w5 : Addr) (w6 : Addr) (w7 : Addr) (w8 : Addr) (k0 : Addr) (k1 : Addr) (GS : Glob Z w0 w1 w2 w3 w4 w5 w6 w7 w8 k0 k1) (a : Addr) (h0 : Heap) (n0 : Nat) (Z0 : n0 ≤ h0.size) (O0 : Old Z n0 h0) :
    MetFree l (⟨"java/lang/Record", "<init>", "()V"⟩ : MethodName) (head1 (Jvm.Cond.code (⟨"java/lang/Record", "<init>", "()V"⟩ : MethodName) jdk_30_method_1_code 1 none :: ws) ({ frames := 1, cells := 0, slots := 0, locals := 12 } : Room)) (fun aa_ UU_ => aa_ = #[(.ref a)] ∧ Z.Warmed39 UU_.vm ∧ UU_.heap = h0) (fun _ _ _ _ _ => True) (fun _ UU_ oo_ UV_ => ∃ vv_ LL_, oo_ = .returned vv_ ∧ Q_rmRec Z w0 w1 w2 w3 w4 w5 w6 w7 w8 k0 k1 a h0 n0 vv_ UV_.heap LL_ ∧ FrameEnd UU_ oo_ UV_ LL_ ({ frames := 1, cells := 0, slots := 0, locals := 12 } : Room).cells ({ frames := 1, cells := 0, slots := 0, locals := 12 } : Room).slots) := by
  refine MetFree.of_bodySF (plainFor_of_name own_pn_java_lang_Record) hisR ?_
  intro p e s m args below meth c s₁ Bd hml0 hP hK
  obtain ⟨rfl, hZ, hh⟩ := hP
  have hx := Bd.exec
  have hby := Bd.bytes
  have hml : c.maxLocals = 1 := hml0
  have hown : s.vm.findClass "java/lang/Record" = some m.cls := findClass_of_methodNamed Bd.named
  have hnm := (name_of_methodNamed Bd.named Bd.method).1
  have X0 : Stand p l e ({ frames := 1, cells := 0, slots := 0, locals := 12 } : Room) s m #[(.ref a)] below meth c s₁ [] 0 0 := Stand.of_body Bd
  have e0 : s₁.heap = h0 := by rw [← hh, Bd.state]; rfl
  have N0 := Fr.nil n0
  have hn0 : Z.heap.size = n0 := O0.1
  have KT0 : Keep h0 h0 [] := Keep.refl _ _
  refine own_enter (Φ := fun oo_ UV_ => ∃ vv_ LL_, oo_ = .returned vv_ ∧ Q_rmRec Z w0 w1 w2 w3 w4 w5 w6 w7 w8 k0 k1 a h0 n0 vv_ UV_.heap LL_ ∧ FrameEnd s oo_ UV_ LL_ ({ frames := 1, cells := 0, slots := 0, locals := 12 } : Room).cells ({ frames := 1, cells := 0, slots := 0, locals := 12 } : Room).slots) (own_ef_rmRec m a) ?_
  refine own_by (T' := s₁) (g' := (mkF m 1 #[.val (.ref a)] [(.ref a)])) (fun _ kt_ => XS.aloadN X0.here hx rfl (hb hby own_d2_0) rfl rfl kt_) ?_
  obtain ⟨T1, X1, e1, st1⟩ := initO X0 hx hZ hown (hw _ (List.mem_of_getElem? (i := 42) rfl)) (hw _ (List.mem_of_getElem? (i := 43) rfl)) (hw _ (List.mem_of_getElem? (i := 44) rfl)) e0 (g := (mkF m 1 #[.val (.ref a)] [(.ref a)])) rfl (by rw [hml]; rfl) rfl (hb hby own_d2_1) (by decide) (W := 0) (by show 2 * 0 + _ ≤ _; exact Nat.le_of_eq rfl) (by decide)
  refine own_by (T' := T1) (g' := (mkF m 4 #[.val (.ref a)] [])) st1 ?_
  obtain ⟨fs2, hr2, hrun2, hended2, hW2, hsame2⟩ := X1.leave (v := none) (fun _ => rfl)
  refine ⟨_, _, X1.returnOut hx Bd.returns (hb hby own_d2_4) hr2, hrun2, hended2, _, _, rfl, ?_, ⟨_, rfl⟩, hW2, hsame2.mono (by decide) (by decide)⟩
  show Q_rmRec Z w0 w1 w2 w3 w4 w5 w6 w7 w8 k0 k1 a h0 n0 _ T1.heap _
  exact ⟨rfl, N0, e1⟩
theorem own_pd_0 : parseMethodDescriptor "()V" = some ⟨[], none⟩ := by decide +kernel
theorem own_d1_0 : decode prog_32_method_1_code 0 = .ok (.aload_n 0, 1) := by decide +kernel
theorem own_d1_1 : decode prog_32_method_1_code 1 = .ok (.invokespecial 1, 3) := by decide +kernel
theorem own_d1_4 : decode prog_32_method_1_code 4 = .ok (.aload_n 0, 1) := by decide +kernel
theorem own_d1_5 : decode prog_32_method_1_code 5 = .ok (.aload_n 1, 1) := by decide +kernel
theorem own_d1_6 : decode prog_32_method_1_code 6 = .ok (.putfield 7, 3) := by decide +kernel
theorem own_d1_9 : decode prog_32_method_1_code 9 = .ok (.aload_n 0, 1) := by decide +kernel
theorem own_d1_10 : decode prog_32_method_1_code 10 = .ok (.aload_n 2, 1) := by decide +kernel
theorem own_d1_11 : decode prog_32_method_1_code 11 = .ok (.putfield 13, 3) := by decide +kernel
theorem own_d1_14 : decode prog_32_method_1_code 14 = .ok (.aload_n 0, 1) := by decide +kernel
theorem own_d1_15 : decode prog_32_method_1_code 15 = .ok (.iload_n 3, 1) := by decide +kernel
theorem own_d1_16 : decode prog_32_method_1_code 16 = .ok (.putfield 17, 3) := by decide +kernel
theorem own_d1_19 : decode prog_32_method_1_code 19 = .ok (.return_, 1) := by decide +kernel
theorem own_pn_com_example_serialyze_serialyze_engine_explore_Role_Event : plainName "com/example/serialyze/serialyze/engine/explore/Role$Event" = true := by first | (simp [plainName, overriddenIn]; done) | decide +kernel
theorem own_ef_rmIni (m : MethodId) (x0 : Addr) (x1 : Value) (hx1 : x1.isRef = true) (x2 : Value) (hx2 : x2.isRef = true) (x3 : Int32) : entryFrame m #[(.ref x0), x1, x2, (.int x3)] 4 = mkF m 0 #[.val (.ref x0), .val x1, .val x2, .val (.int x3)] [] := by
  rcases ref_cases hx1 with rfl | ⟨_, rfl⟩ <;> rcases ref_cases hx2 with rfl | ⟨_, rfl⟩ <;> first | (simp [entryFrame, mkF, argsToLocals, Value.category]; done) | rfl
def Q_rmIni (Z : State) (w0 : Addr) (w1 : Addr) (w2 : Addr) (w3 : Addr) (w4 : Addr) (w5 : Addr) (w6 : Addr) (w7 : Addr) (w8 : Addr) (k0 : Addr) (k1 : Addr) (a : Addr) (vo : Value) (hvo : vo.isRef = true) (vk : Value) (hvk : vk.isRef = true) (n : Int32) (h0 : Heap) (n0 : Nat) (vv_ : Option Value) (hh_ : Heap) (LL_ : List Loc) : Prop := vv_ = none ∧ Fr n0 LL_ ∧ Keep h0 hh_ [a] ∧ Fld Z hh_ a "com/example/serialyze/serialyze/engine/explore/Role$Event" "op" "Lcom/example/serialyze/serialyze/engine/explore/Program$Op;" vo ∧ Fld Z hh_ a "com/example/serialyze/serialyze/engine/explore/Role$Event" "kind" "Lcom/example/serialyze/serialyze/engine/model/AccessKind;" vk ∧ Fld Z hh_ a "com/example/serialyze/serialyze/engine/explore/Role$Event" "operand" "I" (.int n)
set_option maxRecDepth 65536 in
set_option maxHeartbeats 40000000 in
theorem rmIni (l : Launch) (Z : State) (a0 : Array Value) (hw : ∀ d ∈ tables_1, d.before a0 Z = true) (ws : List Jvm.Cond) (w0 : Addr) (w1 : Addr) (w2 : Addr) (w3 : Addr) (w4 : Addr) (w5 : Addr) (w6 : Addr) (w7 : Addr) (w8 : Addr) (k0 : Addr) (k1 : Addr) (GS : Glob Z w0 w1 w2 w3 w4 w5 w6 w7 w8 k0 k1) (a : Addr) (vo : Value) (hvo : vo.isRef = true) (vk : Value) (hvk : vk.isRef = true) (n : Int32) (h0 : Heap) (n0 : Nat) (Z0 : n0 ≤ h0.size) (O0 : Old Z n0 h0) (E_a : Exa Z h0 a "com/example/serialyze/serialyze/engine/explore/Role$Event") (g_a : n0 ≤ a) (F_op : Fld Z h0 a "com/example/serialyze/serialyze/engine/explore/Role$Event" "op" "Lcom/example/serialyze/serialyze/engine/explore/Program$Op;" .null) (F_kind : Fld Z h0 a "com/example/serialyze/serialyze/engine/explore/Role$Event" "kind" "Lcom/example/serialyze/serialyze/engine/model/AccessKind;" .null) (F_operand : Fld Z h0 a "com/example/serialyze/serialyze/engine/explore/Role$Event" "operand" "I" (.int (0 : Int32))) :
    MetFree l (⟨"com/example/serialyze/serialyze/engine/explore/Role$Event", "<init>", "(Lcom/example/serialyze/serialyze/engine/explore/Program$Op;Lcom/example/serialyze/serialyze/engine/model/AccessKind;I)V"⟩ : MethodName) (head1 (Jvm.Cond.code (⟨"com/example/serialyze/serialyze/engine/explore/Role$Event", "<init>", "(Lcom/example/serialyze/serialyze/engine/explore/Program$Op;Lcom/example/serialyze/serialyze/engine/model/AccessKind;I)V"⟩ : MethodName) prog_32_method_1_code 4 none :: ws) ({ frames := 2, cells := 0, slots := 0, locals := 24 } : Room)) (fun aa_ UU_ => aa_ = #[(.ref a), vo, vk, (.int n)] ∧ Z.Warmed39 UU_.vm ∧ UU_.heap = h0) (fun _ _ _ _ _ => True) (fun _ UU_ oo_ UV_ => ∃ vv_ LL_, oo_ = .returned vv_ ∧ Q_rmIni Z w0 w1 w2 w3 w4 w5 w6 w7 w8 k0 k1 a vo hvo vk hvk n h0 n0 vv_ UV_.heap LL_ ∧ FrameEnd UU_ oo_ UV_ LL_ ({ frames := 2, cells := 0, slots := 0, locals := 24 } : Room).cells ({ frames := 2, cells := 0, slots := 0, locals := 24 } : Room).slots) := by
  refine MetFree.of_bodySF (plainFor_of_name own_pn_com_example_serialyze_serialyze_engine_explore_Role_Event) hisR ?_
  intro p e s m args below meth c s₁ Bd hml0 hP hK
  obtain ⟨rfl, hZ, hh⟩ := hP
  have hx := Bd.exec
  have hby := Bd.bytes
  have hml : c.maxLocals = 4 := hml0
  have hown : s.vm.findClass "com/example/serialyze/serialyze/engine/explore/Role$Event" = some m.cls := findClass_of_methodNamed Bd.named
  have hnm := (name_of_methodNamed Bd.named Bd.method).1
  have X0 : Stand p l e ({ frames := 2, cells := 0, slots := 0, locals := 24 } : Room) s m #[(.ref a), vo, vk, (.int n)] below meth c s₁ [] 0 0 := Stand.of_body Bd
  have e0 : s₁.heap = h0 := by rw [← hh, Bd.state]; rfl
  have N0 := Fr.nil n0
  have hn0 : Z.heap.size = n0 := O0.1
  have KT0 : Keep h0 h0 [a] := Keep.refl _ _
  refine own_enter (Φ := fun oo_ UV_ => ∃ vv_ LL_, oo_ = .returned vv_ ∧ Q_rmIni Z w0 w1 w2 w3 w4 w5 w6 w7 w8 k0 k1 a vo hvo vk hvk n h0 n0 vv_ UV_.heap LL_ ∧ FrameEnd s oo_ UV_ LL_ ({ frames := 2, cells := 0, slots := 0, locals := 24 } : Room).cells ({ frames := 2, cells := 0, slots := 0, locals := 24 } : Room).slots) (own_ef_rmIni m a vo hvo vk hvk n) ?_
  refine own_by (T' := s₁) (g' := (mkF m 1 #[.val (.ref a), .val vo, .val vk, .val (.int n)] [(.ref a)])) (fun _ kt_ => XS.aloadN X0.here hx rfl (hb hby own_d1_0) rfl rfl kt_) ?_
  obtain ⟨_, _, ⟨T1, L1, k1, n1⟩, -, X1, ⟨Lc1, hQ1, l1, y1, z1⟩, st1⟩ := X0.specialBack hx (y := (⟨"java/lang/Record", "<init>", "()V"⟩ : MethodName)) rfl hown (mvT hZ (hw _ (List.mem_of_getElem? (i := 37) rfl))) (mvT hZ (hw _ (List.mem_of_getElem? (i := 38) rfl))) (mvT hZ (hw _ (List.mem_of_getElem? (i := 41) rfl))) (by decide) (backOf (W := 0) (rmRec l Z a0 hw [] w0 w1 w2 w3 w4 w5 w6 w7 w8 k0 k1 GS a h0 n0 (by omega) O0 ) hZ (hw _ (List.mem_of_getElem? (i := 41) rfl)) (hw _ (List.mem_of_getElem? (i := 40) rfl)) (by decide) (by decide)) (g := (mkF m 1 #[.val (.ref a), .val vo, .val vk, .val (.int n)] [(.ref a)])) rfl (by rw [hml]; rfl) (Steps.refl _) (a := a) (argsL := []) (rest := []) (lenOf own_pd_0 rfl) rfl (by show 2 * 0 + _ ≤ _; exact Nat.le_of_eq rfl) (hb hby own_d1_1) (fun _ _ => ⟨rfl, e0, (by decide : 0 + 0 ≤ _), (by decide : 0 + 0 ≤ _)⟩)
  dsimp only [Pt.U, Pt.locs, Pt.cells, Pt.slots] at X1 l1 y1 z1 st1 hQ1
  subst l1 y1 z1
  obtain ⟨rfl, N1q, e1⟩ := hQ1
  have N2 := Fr.app N0 N1q
  refine own_by (T' := T1) (g' := (mkF m 4 #[.val (.ref a), .val vo, .val vk, .val (.int n)] [])) (fun _ kt_ => st1.trans kt_) ?_
  refine own_by (T' := T1) (g' := (mkF m 5 #[.val (.ref a), .val vo, .val vk, .val (.int n)] [(.ref a)])) (fun _ kt_ => XS.aloadN X1.here hx rfl (hb hby own_d1_4) rfl rfl kt_) ?_
  refine own_by (T' := T1) (g' := (mkF m 6 #[.val (.ref a), .val vo, .val vk, .val (.int n)] [vo, (.ref a)])) (fun _ kt_ => XS.aloadN X1.here hx rfl (hb hby own_d1_5) rfl hvo kt_) ?_
  obtain ⟨T3, h3, X3, e3, W3, st3⟩ := putF X1 hx hZ hown (host := "") (Or.inl (hw _ (List.mem_of_getElem? (i := 45) rfl))) Via.refl e1 F_op E_a (Or.inr ⟨(hw _ (List.mem_of_getElem? (i := 46) rfl)), rfl, hnm⟩) (hw _ (List.mem_of_getElem? (i := 32) rfl)) (ty := (.object "com/example/serialyze/serialyze/engine/explore/Program$Op")) (by decide) (own_narR rfl hvo) (own_fitR rfl hvo) (g := (mkF m 6 #[.val (.ref a), .val vo, .val vk, .val (.int n)] [vo, (.ref a)])) rfl rfl (hb hby own_d1_6)
  have K4 : Keep h0 h3 [a] := Keep.of_wr W3
  have zzK4 : h0.size ≤ h3.size := K4.1
  have oo5 : Old Z n0 h3 := O0.keep K4 (allS (by omega : n0 ≤ a) all0)
  have kt6 : Keep h0 h3 [a] := KT0.trans K4 (allS (Or.inl (List.mem_of_getElem? (i := 0) rfl)) all0)
  have f7 : Fld Z h3 a "com/example/serialyze/serialyze/engine/explore/Role$Event" "op" "Lcom/example/serialyze/serialyze/engine/explore/Program$Op;" vo := F_op.same W3
  have f8 : Fld Z h3 a "com/example/serialyze/serialyze/engine/explore/Role$Event" "kind" "Lcom/example/serialyze/serialyze/engine/model/AccessKind;" .null := F_kind.other W3 (Or.inr (slot_ne (Or.inr (hw _ (List.mem_of_getElem? (i := 48) rfl))) (Or.inr (hw _ (List.mem_of_getElem? (i := 46) rfl))) (by decide) (t := (.object "com/example/serialyze/serialyze/engine/model/AccessKind")) (t' := (.object "com/example/serialyze/serialyze/engine/explore/Program$Op")) (by decide) (by decide)))
  have f9 : Fld Z h3 a "com/example/serialyze/serialyze/engine/explore/Role$Event" "operand" "I" (.int (0 : Int32)) := F_operand.other W3 (Or.inr (slot_ne (Or.inr (hw _ (List.mem_of_getElem? (i := 50) rfl))) (Or.inr (hw _ (List.mem_of_getElem? (i := 46) rfl))) (by decide) (t := .int) (t' := (.object "com/example/serialyze/serialyze/engine/explore/Program$Op")) (by decide) (by decide)))
  have N10 := Fr.snoc X3 N2 (by omega : n0 ≤ a)
  refine own_by (T' := T3) (g' := (mkF m 9 #[.val (.ref a), .val vo, .val vk, .val (.int n)] [])) st3 ?_
  refine own_by (T' := T3) (g' := (mkF m 10 #[.val (.ref a), .val vo, .val vk, .val (.int n)] [(.ref a)])) (fun _ kt_ => XS.aloadN X3.here hx rfl (hb hby own_d1_9) rfl rfl kt_) ?_
  refine own_by (T' := T3) (g' := (mkF m 11 #[.val (.ref a), .val vo, .val vk, .val (.int n)] [vk, (.ref a)])) (fun _ kt_ => XS.aloadN X3.here hx rfl (hb hby own_d1_10) rfl hvk kt_) ?_
  have f11 : Exa Z h3 a "com/example/serialyze/serialyze/engine/explore/Role$Event" := (E_a.keep K4)
  obtain ⟨T12, h12, X12, e12, W12, st12⟩ := putF X3 hx hZ hown (host := "") (Or.inl (hw _ (List.mem_of_getElem? (i := 47) rfl))) Via.refl e3 f8 f11 (Or.inr ⟨(hw _ (List.mem_of_getElem? (i := 48) rfl)), rfl, hnm⟩) (hw _ (List.mem_of_getElem? (i := 32) rfl)) (ty := (.object "com/example/serialyze/serialyze/engine/model/AccessKind")) (by decide) (own_narR rfl hvk) (own_fitR rfl hvk) (g := (mkF m 11 #[.val (.ref a), .val vo, .val vk, .val (.int n)] [vk, (.ref a)])) rfl rfl (hb hby own_d1_11)
  have K13 : Keep h3 h12 [a] := Keep.of_wr W12
  have zzK13 : h3.size ≤ h12.size := K13.1
  have oo14 : Old Z n0 h12 := oo5.keep K13 (allS (by omega : n0 ≤ a) all0)
  have kt15 : Keep h0 h12 [a] := kt6.trans K13 (allS (Or.inl (List.mem_of_getElem? (i := 0) rfl)) all0)
  have f16 : Fld Z h12 a "com/example/serialyze/serialyze/engine/explore/Role$Event" "op" "Lcom/example/serialyze/serialyze/engine/explore/Program$Op;" vo := f7.other W12 (Or.inr (slot_ne (Or.inr (hw _ (List.mem_of_getElem? (i := 46) rfl))) (Or.inr (hw _ (List.mem_of_getElem? (i := 48) rfl))) (by decide) (t := (.object "com/example/serialyze/serialyze/engine/explore/Program$Op")) (t' := (.object "com/example/serialyze/serialyze/engine/model/AccessKind")) (by decide) (by decide)))
  have f17 : Fld Z h12 a "com/example/serialyze/serialyze/engine/explore/Role$Event" "kind" "Lcom/example/serialyze/serialyze/engine/model/AccessKind;" vk := f8.same W12
  have f18 : Fld Z h12 a "com/example/serialyze/serialyze/engine/explore/Role$Event" "operand" "I" (.int (0 : Int32)) := f9.other W12 (Or.inr (slot_ne (Or.inr (hw _ (List.mem_of_getElem? (i := 50) rfl))) (Or.inr (hw _ (List.mem_of_getElem? (i := 48) rfl))) (by decide) (t := .int) (t' := (.object "com/example/serialyze/serialyze/engine/model/AccessKind")) (by decide) (by decide)))
  have N19 := Fr.snoc X12 N10 (by omega : n0 ≤ a)
  refine own_by (T' := T12) (g' := (mkF m 14 #[.val (.ref a), .val vo, .val vk, .val (.int n)] [])) st12 ?_
  refine own_by (T' := T12) (g' := (mkF m 15 #[.val (.ref a), .val vo, .val vk, .val (.int n)] [(.ref a)])) (fun _ kt_ => XS.aloadN X12.here hx rfl (hb hby own_d1_14) rfl rfl kt_) ?_
  refine own_by (T' := T12) (g' := (mkF m 16 #[.val (.ref a), .val vo, .val vk, .val (.int n)] [(.int n), (.ref a)])) (fun _ kt_ => XS.iloadN X12.here hx rfl (hb hby own_d1_15) rfl kt_) ?_
  have f20 : Exa Z h12 a "com/example/serialyze/serialyze/engine/explore/Role$Event" := (f11.keep K13)
  obtain ⟨T21, h21, X21, e21, W21, st21⟩ := putF X12 hx hZ hown (host := "") (Or.inl (hw _ (List.mem_of_getElem? (i := 49) rfl))) Via.refl e12 f18 f20 (Or.inr ⟨(hw _ (List.mem_of_getElem? (i := 50) rfl)), rfl, hnm⟩) (hw _ (List.mem_of_getElem? (i := 32) rfl)) (ty := .int) (by decide) rfl rfl (g := (mkF m 16 #[.val (.ref a), .val vo, .val vk, .val (.int n)] [(.int n), (.ref a)])) rfl rfl (hb hby own_d1_16)
  have K22 : Keep h12 h21 [a] := Keep.of_wr W21
  have zzK22 : h12.size ≤ h21.size := K22.1
  have oo23 : Old Z n0 h21 := oo14.keep K22 (allS (by omega : n0 ≤ a) all0)
  have kt24 : Keep h0 h21 [a] := kt15.trans K22 (allS (Or.inl (List.mem_of_getElem? (i := 0) rfl)) all0)
  have f25 : Fld Z h21 a "com/example/serialyze/serialyze/engine/explore/Role$Event" "op" "Lcom/example/serialyze/serialyze/engine/explore/Program$Op;" vo := f16.other W21 (Or.inr (slot_ne (Or.inr (hw _ (List.mem_of_getElem? (i := 46) rfl))) (Or.inr (hw _ (List.mem_of_getElem? (i := 50) rfl))) (by decide) (t := (.object "com/example/serialyze/serialyze/engine/explore/Program$Op")) (t' := .int) (by decide) (by decide)))
  have f26 : Fld Z h21 a "com/example/serialyze/serialyze/engine/explore/Role$Event" "kind" "Lcom/example/serialyze/serialyze/engine/model/AccessKind;" vk := f17.other W21 (Or.inr (slot_ne (Or.inr (hw _ (List.mem_of_getElem? (i := 48) rfl))) (Or.inr (hw _ (List.mem_of_getElem? (i := 50) rfl))) (by decide) (t := (.object "com/example/serialyze/serialyze/engine/model/AccessKind")) (t' := .int) (by decide) (by decide)))
  have f27 : Fld Z h21 a "com/example/serialyze/serialyze/engine/explore/Role$Event" "operand" "I" (.int n) := f18.same W21
  have N28 := Fr.snoc X21 N19 (by omega : n0 ≤ a)
  refine own_by (T' := T21) (g' := (mkF m 19 #[.val (.ref a), .val vo, .val vk, .val (.int n)] [])) st21 ?_
  obtain ⟨fs29, hr29, hrun29, hended29, hW29, hsame29⟩ := X21.leave (v := none) (fun _ => rfl)
  refine ⟨_, _, X21.returnOut hx Bd.returns (hb hby own_d1_19) hr29, hrun29, hended29, _, _, rfl, ?_, ⟨_, rfl⟩, hW29, hsame29.mono (by decide) (by decide)⟩
  show Q_rmIni Z w0 w1 w2 w3 w4 w5 w6 w7 w8 k0 k1 a vo hvo vk hvk n h0 n0 _ T21.heap _
  rw [e21]
  exact ⟨rfl, N28, kt24, f25, f26, f27⟩
theorem own_d4_0 : decode prog_32_method_4_code 0 = .ok (.aload_n 0, 1) := by decide +kernel
theorem own_d4_1 : decode prog_32_method_4_code 1 = .ok (.getfield 7, 3) := by decide +kernel
theorem own_d4_4 : decode prog_32_method_4_code 4 = .ok (.ifnull 7, 3) := by decide +kernel
theorem own_d4_7 : decode prog_32_method_4_code 7 = .ok (.iconst 1, 1) := by decide +kernel
theorem own_d4_8 : decode prog_32_method_4_code 8 = .ok (.goto 4, 3) := by decide +kernel
theorem own_d4_11 : decode prog_32_method_4_code 11 = .ok (.iconst 0, 1) := by decide +kernel
theorem own_d4_12 : decode prog_32_method_4_code 12 = .ok (.ireturn, 1) := by decide +kernel
theorem own_ef_rmMine (m : MethodId) (x0 : Addr) : entryFrame m #[(.ref x0)] 1 = mkF m 0 #[.val (.ref x0)] [] := by first | (simp [entryFrame, mkF, argsToLocals, Value.category]; done) | rfl
def Q_rmMine (Z : State) (w0 : Addr) (w1 : Addr) (w2 : Addr) (w3 : Addr) (w4 : Addr) (w5 : Addr) (w6 : Addr) (w7 : Addr) (w8 : Addr) (k0 : Addr) (k1 : Addr) (a : Addr) (vo : Value) (hvo : vo.isRef = true) (h0 : Heap) (n0 : Nat) (vv_ : Option Value) (hh_ : Heap) (LL_ : List Loc) : Prop := vv_ = some (.int (if vo = Value.null then (0 : Int32) else (1 : Int32))) ∧ Fr n0 LL_ ∧ hh_ = h0
set_option maxRecDepth 65536 in
set_option maxHeartbeats 40000000 in
theorem rmMine (l : Launch) (Z : State) (a0 : Array Value) (hw : ∀ d ∈ tables_1, d.before a0 Z = true) (ws : List Jvm.Cond) (w0 : Addr) (w1 : Addr) (w2 : Addr) (w3 : Addr) (w4 : Addr) (w5 : Addr) (w6 : Addr) (w7 : Addr) (w8 : Addr) (k0 : Addr) (k1 : Addr) (GS : Glob Z w0 w1 w2 w3 w4 w5 w6 w7 w8 k0 k1) (a : Addr) (vo : Value) (hvo : vo.isRef = true) (h0 : Heap) (n0 : Nat) (Z0 : n0 ≤ h0.size) (O0 : Old Z n0 h0) (Fo : Fld Z h0 a "com/example/serialyze/serialyze/engine/explore/Role$Event" "op" "Lcom/example/serialyze/serialyze/engine/explore/Program$Op;" vo) :
    MetFree l (⟨"com/example/serialyze/serialyze/engine/explore/Role$Event", "mine", "()Z"⟩ : MethodName) (head1 (Jvm.Cond.code (⟨"com/example/serialyze/serialyze/engine/explore/Role$Event", "mine", "()Z"⟩ : MethodName) prog_32_method_4_code 1 (some .boolean) :: ws) ({ frames := 0, cells := 0, slots := 0, locals := 0 } : Room)) (fun aa_ UU_ => aa_ = #[(.ref a)] ∧ Z.Warmed39 UU_.vm ∧ UU_.heap = h0) (fun _ _ _ _ _ => True) (fun _ UU_ oo_ UV_ => ∃ vv_ LL_, oo_ = .returned vv_ ∧ Q_rmMine Z w0 w1 w2 w3 w4 w5 w6 w7 w8 k0 k1 a vo hvo h0 n0 vv_ UV_.heap LL_ ∧ FrameEnd UU_ oo_ UV_ LL_ ({ frames := 0, cells := 0, slots := 0, locals := 0 } : Room).cells ({ frames := 0, cells := 0, slots := 0, locals := 0 } : Room).slots) := by
  refine MetFree.of_bodySF (plainFor_of_name own_pn_com_example_serialyze_serialyze_engine_explore_Role_Event) hisR ?_
  intro p e s m args below meth c s₁ Bd hml0 hP hK
  obtain ⟨rfl, hZ, hh⟩ := hP
  have hx := Bd.exec
  have hby := Bd.bytes
  have hml : c.maxLocals = 1 := hml0
  have hown : s.vm.findClass "com/example/serialyze/serialyze/engine/explore/Role$Event" = some m.cls := findClass_of_methodNamed Bd.named
  have hnm := (name_of_methodNamed Bd.named Bd.method).1
  have X0 : Stand p l e ({ frames := 0, cells := 0, slots := 0, locals := 0 } : Room) s m #[(.ref a)] below meth c s₁ [] 0 0 := Stand.of_body Bd
  have e0 : s₁.heap = h0 := by rw [← hh, Bd.state]; rfl
  have N0 := Fr.nil n0
  have hn0 : Z.heap.size = n0 := O0.1
  have KT0 : Keep h0 h0 [] := Keep.refl _ _
  refine own_enter (Φ := fun oo_ UV_ => ∃ vv_ LL_, oo_ = .returned vv_ ∧ Q_rmMine Z w0 w1 w2 w3 w4 w5 w6 w7 w8 k0 k1 a vo hvo h0 n0 vv_ UV_.heap LL_ ∧ FrameEnd s oo_ UV_ LL_ ({ frames := 0, cells := 0, slots := 0, locals := 0 } : Room).cells ({ frames := 0, cells := 0, slots := 0, locals := 0 } : Room).slots) (own_ef_rmMine m a) ?_
  refine own_by (T' := s₁) (g' := (mkF m 1 #[.val (.ref a)] [(.ref a)])) (fun _ kt_ => XS.aloadN X0.here hx rfl (hb hby own_d4_0) rfl rfl kt_) ?_
  obtain ⟨T1, X1, e1, st1⟩ := getF X0 hx hZ hown (host := "") (Or.inl (hw _ (List.mem_of_getElem? (i := 45) rfl))) Via.refl e0 Fo (g := (mkF m 1 #[.val (.ref a)] [(.ref a)])) rfl rfl (hb hby own_d4_1)
  refine own_by (T' := T1) (g' := (mkF m 4 #[.val (.ref a)] [vo])) st1 ?_
  by_cases hc2 : vo = Value.null
  · refine own_by (T' := T1) (g' := (mkF m 11 #[.val (.ref a)] [])) (fun _ kt_ => XT.nullYes X1.here hx rfl (pc0 := 4) (pc' := 11) rfl (hb hby own_d4_4) rfl hc2 (by decide) (by decide) kt_) ?_
    refine own_by (T' := T1) (g' := (mkF m 12 #[.val (.ref a)] [(.int (0 : Int32))])) (fun _ kt_ => XS.iconst X1.here hx rfl (hb hby own_d4_11) kt_) ?_
    have hn3 : nar .boolean (0 : Int32) = (0 : Int32) := rfl
    have hr4 : (0 : Int32) = (if vo = Value.null then (0 : Int32) else (1 : Int32)) := by simp [hc2]
    obtain ⟨fs5, hr5, hrun5, hended5, hW5, hsame5⟩ := X1.leave (v := some (.int (nar .boolean (0 : Int32)))) (fun h => by rw [Bd.returns] at h; cases h)
    refine ⟨_, _, retN X1 hx (t := .boolean) Bd.returns (by simp) (hb hby own_d4_12) hr5, hrun5, hended5, _, _, rfl, ?_, ⟨_, rfl⟩, hW5, hsame5.mono (by decide) (by decide)⟩
    show Q_rmMine Z w0 w1 w2 w3 w4 w5 w6 w7 w8 k0 k1 a vo hvo h0 n0 _ T1.heap _
    exact ⟨(congrArg (fun z => some (Value.int z)) (hn3.trans hr4)), N0, e1⟩
  · refine own_by (T' := T1) (g' := (mkF m 7 #[.val (.ref a)] [])) (fun _ kt_ => XT.nullNo X1.here hx rfl (hb hby own_d4_4) rfl hvo hc2 kt_) ?_
    refine own_by (T' := T1) (g' := (mkF m 8 #[.val (.ref a)] [(.int (1 : Int32))])) (fun _ kt_ => XS.iconst X1.here hx rfl (hb hby own_d4_7) kt_) ?_
    refine own_by (T' := T1) (g' := (mkF m 12 #[.val (.ref a)] [(.int (1 : Int32))])) (fun _ kt_ => XS.goto X1.here hx rfl (pc0 := 8) (pc' := 12) rfl (hb hby own_d4_8) (by decide) (by decide) kt_) ?_
    have hn6 : nar .boolean (1 : Int32) = (1 : Int32) := rfl
    have hr7 : (1 : Int32) = (if vo = Value.null then (0 : Int32) else (1 : Int32)) := by simp [hc2]
    obtain ⟨fs8, hr8, hrun8, hended8, hW8, hsame8⟩ := X1.leave (v := some (.int (nar .boolean (1 : Int32)))) (fun h => by rw [Bd.returns] at h; cases h)
    refine ⟨_, _, retN X1 hx (t := .boolean) Bd.returns (by simp) (hb hby own_d4_12) hr8, hrun8, hended8, _, _, rfl, ?_, ⟨_, rfl⟩, hW8, hsame8.mono (by decide) (by decide)⟩
    show Q_rmMine Z w0 w1 w2 w3 w4 w5 w6 w7 w8 k0 k1 a vo hvo h0 n0 _ T1.heap _
    exact ⟨(congrArg (fun z => some (Value.int z)) (hn6.trans hr7)), N0, e1⟩
theorem own_pd_1 : parseMethodDescriptor "(Lcom/example/serialyze/serialyze/engine/explore/Program$Op;Lcom/example/serialyze/serialyze/engine/model/AccessKind;I)V" = some ⟨[(.object "com/example/serialyze/serialyze/engine/explore/Program$Op"), (.object "com/example/serialyze/serialyze/engine/model/AccessKind"), .int], none⟩ := by decide +kernel
theorem own_pd_2 : parseMethodDescriptor "()Z" = some ⟨[], some .boolean⟩ := by decide +kernel
theorem own_pn_com_example_serialyze_serialyze_engine_explore_EventMinePinLaw : plainName "com/example/serialyze/serialyze/engine/explore/EventMinePinLaw" = true := by first | (simp [plainName, overriddenIn]; done) | decide +kernel
theorem own_ef_rm0 (m : MethodId) (x0 : Int32) (x1 : Int32) (x2 : Int32) : entryFrame m #[(.int x0), (.int x1), (.int x2)] maxLocals = mkF m 0 #[.val (.int x0), .val (.int x1), .val (.int x2), .unset, .unset, .unset, .unset, .unset, .unset] [] := by first | (simp [entryFrame, mkF, argsToLocals, Value.category, maxLocals]; done) | rfl
def Q_rm0 (Z : State) (w0 : Addr) (w1 : Addr) (w2 : Addr) (w3 : Addr) (w4 : Addr) (w5 : Addr) (w6 : Addr) (w7 : Addr) (w8 : Addr) (k0 : Addr) (k1 : Addr) (p0 : Int32) (p1 : Int32) (p2 : Int32) (h0 : Heap) (n0 : Nat) (vv_ : Option Value) (hh_ : Heap) (LL_ : List Loc) : Prop := vv_ = some (.int (1 : Int32)) ∧ Fr n0 LL_
set_option maxRecDepth 65536 in
set_option maxHeartbeats 40000000 in
theorem rm0 (l : Launch) (Z : State) (a0 : Array Value) (hw : ∀ d ∈ tables_1, d.before a0 Z = true) (ws : List Jvm.Cond) (w0 : Addr) (w1 : Addr) (w2 : Addr) (w3 : Addr) (w4 : Addr) (w5 : Addr) (w6 : Addr) (w7 : Addr) (w8 : Addr) (k0 : Addr) (k1 : Addr) (GS : Glob Z w0 w1 w2 w3 w4 w5 w6 w7 w8 k0 k1) (p0 : Int32) (p1 : Int32) (p2 : Int32) (h0 : Heap) (n0 : Nat) (Z0 : n0 ≤ h0.size) (O0 : Old Z n0 h0) :
    MetFree l x (head1 (Jvm.Cond.code x code maxLocals ret :: ws) room_1) (fun aa_ UU_ => aa_ = #[(.int p0), (.int p1), (.int p2)] ∧ Z.Warmed39 UU_.vm ∧ UU_.heap = h0) (fun _ _ _ _ _ => True) (fun _ UU_ oo_ UV_ => ∃ vv_ LL_, oo_ = .returned vv_ ∧ Q_rm0 Z w0 w1 w2 w3 w4 w5 w6 w7 w8 k0 k1 p0 p1 p2 h0 n0 vv_ UV_.heap LL_ ∧ FrameEnd UU_ oo_ UV_ LL_ 3 16) := by
  refine MetFree.of_bodySF (plainFor_of_name own_pn_com_example_serialyze_serialyze_engine_explore_EventMinePinLaw) hisR ?_
  intro p e s m args below meth c s₁ Bd hml0 hP hK
  obtain ⟨rfl, hZ, hh⟩ := hP
  have hx := Bd.exec
  have hby := Bd.bytes
  have hml : c.maxLocals = 9 := hml0
  have hown : s.vm.findClass "com/example/serialyze/serialyze/engine/explore/EventMinePinLaw" = some m.cls := findClass_of_methodNamed Bd.named
  have hnm := (name_of_methodNamed Bd.named Bd.method).1
  have X0 : Stand p l e room_1 s m #[(.int p0), (.int p1), (.int p2)] below meth c s₁ [] 0 0 := Stand.of_body Bd
  have e0 : s₁.heap = h0 := by rw [← hh, Bd.state]; rfl
  have N0 := Fr.nil n0
  have hn0 : Z.heap.size = n0 := O0.1
  have KT0 : Keep h0 h0 [] := Keep.refl _ _
  refine own_enter (Φ := fun oo_ UV_ => ∃ vv_ LL_, oo_ = .returned vv_ ∧ Q_rm0 Z w0 w1 w2 w3 w4 w5 w6 w7 w8 k0 k1 p0 p1 p2 h0 n0 vv_ UV_.heap LL_ ∧ FrameEnd s oo_ UV_ LL_ 3 16) (own_ef_rm0 m p0 p1 p2) ?_
  refine own_by (T' := s₁) (g' := (mkF m 1 #[.val (.int p0), .val (.int p1), .val (.int p2), .unset, .unset, .unset, .unset, .unset, .unset] [(.int p0)])) (fun _ kt_ => XS.iloadN X0.here hx rfl (hb hby at_0) rfl kt_) ?_
  refine own_by (T' := s₁) (g' := (mkF m 3 #[.val (.int p0), .val (.int p1), .val (.int p2), .unset, .unset, .unset, .unset, .unset, .unset] [(.int (2147483647 : Int32)), (.int p0)])) (fun _ kt_ => X0.ldcInt hx hown (mvT hZ (hw _ (List.mem_of_getElem? (i := 0) rfl))) (g := (mkF m 1 #[.val (.int p0), .val (.int p1), .val (.int p2), .unset, .unset, .unset, .unset, .unset, .unset] [(.int p0)])) rfl (hb hby at_1) _ kt_) ?_
  refine own_by (T' := s₁) (g' := (mkF m 4 #[.val (.int p0), .val (.int p1), .val (.int p2), .unset, .unset, .unset, .unset, .unset, .unset] [(.int (p0 &&& (2147483647 : Int32)))])) (fun _ kt_ => XS.iand X0.here hx rfl (hb hby at_3) rfl kt_) ?_
  refine own_by (T' := s₁) (g' := (mkF m 6 #[.val (.int p0), .val (.int p1), .val (.int p2), .unset, .unset, .unset, .unset, .unset, .unset] [(.int (10 : Int32)), (.int (p0 &&& (2147483647 : Int32)))])) (fun _ kt_ => XS.bipush X0.here hx rfl (hb hby at_4) kt_) ?_
  refine own_by (T' := s₁) (g' := (mkF m 7 #[.val (.int p0), .val (.int p1), .val (.int p2), .unset, .unset, .unset, .unset, .unset, .unset] [(.int ((p0 &&& (2147483647 : Int32)) % (10 : Int32)))])) (fun _ kt_ => iremM X0 hx rfl (hb hby at_6) rfl (by decide) kt_) ?_
  refine own_by (T' := s₁) (g' := (mkF m 8 #[.val (.int p0), .val (.int p1), .val (.int p2), .val (.int ((p0 &&& (2147483647 : Int32)) % (10 : Int32))), .unset, .unset, .unset, .unset, .unset] [])) (fun _ kt_ => XS.istoreN X0.here hx rfl (hb hby at_7) rfl (l' := #[.val (.int p0), .val (.int p1), .val (.int p2), .val (.int ((p0 &&& (2147483647 : Int32)) % (10 : Int32))), .unset, .unset, .unset, .unset, .unset]) rfl kt_) ?_
  have hb_s := own_mod p0 10 10 rfl (by decide)
  generalize hg_sx : ((p0 &&& (2147483647 : Int32)) % (10 : Int32)) = sx at hb_s ⊢
  refine own_by (T' := s₁) (g' := (mkF m 9 #[.val (.int p0), .val (.int p1), .val (.int p2), .val (.int sx), .unset, .unset, .unset, .unset, .unset] [(.int p1)])) (fun _ kt_ => XS.iloadN X0.here hx rfl (hb hby at_8) rfl kt_) ?_
  refine own_by (T' := s₁) (g' := (mkF m 11 #[.val (.int p0), .val (.int p1), .val (.int p2), .val (.int sx), .unset, .unset, .unset, .unset, .unset] [(.int (2147483647 : Int32)), (.int p1)])) (fun _ kt_ => X0.ldcInt hx hown (mvT hZ (hw _ (List.mem_of_getElem? (i := 0) rfl))) (g := (mkF m 9 #[.val (.int p0), .val (.int p1), .val (.int p2), .val (.int sx), .unset, .unset, .unset, .unset, .unset] [(.int p1)])) rfl (hb hby at_9) _ kt_) ?_
  refine own_by (T' := s₁) (g' := (mkF m 12 #[.val (.int p0), .val (.int p1), .val (.int p2), .val (.int sx), .unset, .unset, .unset, .unset, .unset] [(.int (p1 &&& (2147483647 : Int32)))])) (fun _ kt_ => XS.iand X0.here hx rfl (hb hby at_11) rfl kt_) ?_
  refine own_by (T' := s₁) (g' := (mkF m 13 #[.val (.int p0), .val (.int p1), .val (.int p2), .val (.int sx), .unset, .unset, .unset, .unset, .unset] [(.int (3 : Int32)), (.int (p1 &&& (2147483647 : Int32)))])) (fun _ kt_ => XS.iconst X0.here hx rfl (hb hby at_12) kt_) ?_
  refine own_by (T' := s₁) (g' := (mkF m 14 #[.val (.int p0), .val (.int p1), .val (.int p2), .val (.int sx), .unset, .unset, .unset, .unset, .unset] [(.int ((p1 &&& (2147483647 : Int32)) % (3 : Int32)))])) (fun _ kt_ => iremM X0 hx rfl (hb hby at_13) rfl (by decide) kt_) ?_
  refine own_by (T' := s₁) (g' := (mkF m 16 #[.val (.int p0), .val (.int p1), .val (.int p2), .val (.int sx), .val (.int ((p1 &&& (2147483647 : Int32)) % (3 : Int32))), .unset, .unset, .unset, .unset] [])) (fun _ kt_ => XS.istore X0.here hx rfl (hb hby at_14) rfl (l' := #[.val (.int p0), .val (.int p1), .val (.int p2), .val (.int sx), .val (.int ((p1 &&& (2147483647 : Int32)) % (3 : Int32))), .unset, .unset, .unset, .unset]) rfl kt_) ?_
  have hb_k := own_mod p1 3 3 rfl (by decide)
  generalize hg_kx : ((p1 &&& (2147483647 : Int32)) % (3 : Int32)) = kx at hb_k ⊢
  refine own_by (T' := s₁) (g' := (mkF m 18 #[.val (.int p0), .val (.int p1), .val (.int p2), .val (.int sx), .val (.int kx), .unset, .unset, .unset, .unset] [(.int (10 : Int32))])) (fun _ kt_ => XS.bipush X0.here hx rfl (hb hby at_16) kt_) ?_
  obtain ⟨T3, h3, k3, X3, e3, E3, A3, O3, st3⟩ := newR X0 hx hZ hown (hw _ (List.mem_of_getElem? (i := 1) rfl)) (hw _ (List.mem_of_getElem? (i := 2) rfl)) e0 (g := (mkF m 18 #[.val (.int p0), .val (.int p1), .val (.int p2), .val (.int sx), .val (.int kx), .unset, .unset, .unset, .unset] [(.int (10 : Int32))])) rfl (hb hby at_18) rfl (by decide) (cap := 10) (by decide) (by decide) (by decide) (by decide)
  obtain ⟨b3, g3⟩ : ∃ z, z = h0.size := ⟨_, rfl⟩
  rw [← g3] at A3 st3
  have K4 : Keep h0 h3 [] := own_kext E3
  have zzK4 : h0.size ≤ h3.size := K4.1
  have oo5 : Old Z n0 h3 := O0.keep K4 all0
  have kt6 : Keep h0 h3 [] := KT0.trans K4 all0
  have lab3 : b3 < h3.size := A3.lt
  have f7 : Arv Z h3 b3 k3 (.object "com/example/serialyze/serialyze/engine/explore/Program$Op") (10 : Int32) [.null, .null, .null, .null, .null, .null, .null, .null, .null, .null] .null := (Arv.new A3 (by decide)).pad (pad_rep [] .null 10)
  refine own_by (T' := T3) (g' := (mkF m 21 #[.val (.int p0), .val (.int p1), .val (.int p2), .val (.int sx), .val (.int kx), .unset, .unset, .unset, .unset] [(.ref b3)])) st3 ?_
  refine own_by (T' := T3) (g' := (mkF m 22 #[.val (.int p0), .val (.int p1), .val (.int p2), .val (.int sx), .val (.int kx), .unset, .unset, .unset, .unset] [(.ref b3), (.ref b3)])) (fun _ kt_ => XS.dup X3.here hx rfl (hb hby at_21) rfl rfl kt_) ?_
  refine own_by (T' := T3) (g' := (mkF m 23 #[.val (.int p0), .val (.int p1), .val (.int p2), .val (.int sx), .val (.int kx), .unset, .unset, .unset, .unset] [(.int (0 : Int32)), (.ref b3), (.ref b3)])) (fun _ kt_ => XS.iconst X3.here hx rfl (hb hby at_22) kt_) ?_
  have f8 := GS.1.ext oo5.2
  obtain ⟨T9, X9, e9, st9⟩ := getS2 X3 hx hZ hown (host := "") (Or.inl (hw _ (List.mem_of_getElem? (i := 3) rfl))) Via.refl e3 f8 (g := (mkF m 23 #[.val (.int p0), .val (.int p1), .val (.int p2), .val (.int sx), .val (.int kx), .unset, .unset, .unset, .unset] [(.int (0 : Int32)), (.ref b3), (.ref b3)])) rfl (hb hby at_23)
  refine own_by (T' := T9) (g' := (mkF m 26 #[.val (.int p0), .val (.int p1), .val (.int p2), .val (.int sx), .val (.int kx), .unset, .unset, .unset, .unset] [(.ref w0), (.int (0 : Int32)), (.ref b3), (.ref b3)])) st9 ?_
  obtain ⟨cl10, Ar10, q10, S10, M10, H10, G10⟩ := id f7
  have hin10 : ¬ ((0 : Int32) < 0 ∨ cl10.slots.size ≤ ((0 : Int32)).toNatClampNeg) := inb_of S10 ⟨by decide, by decide⟩
  have f11 := GS.2.1.ext oo5.2
  obtain ⟨T10, h10, X10, e10, W10, st10⟩ := stR X9 hx hZ e9 Ar10 (j := (0 : Int32)) hin10 rfl (Sto.ofV Ar10 q10 O3 (Ins.self f11)) (g := (mkF m 26 #[.val (.int p0), .val (.int p1), .val (.int p2), .val (.int sx), .val (.int kx), .unset, .unset, .unset, .unset] [(.ref w0), (.int (0 : Int32)), (.ref b3), (.ref b3)])) rfl rfl (hb hby at_26)
  have K12 : Keep h3 h10 [b3] := Keep.of_wr W10
  have zzK12 : h3.size ≤ h10.size := K12.1
  have oo13 : Old Z n0 h10 := oo5.keep K12 (allS (by omega : n0 ≤ b3) all0)
  have kt14 : Keep h0 h10 [] := kt6.trans K12 (allS (Or.inr (by omega : h0.size ≤ b3)) all0)
  have f15 : Arv Z h10 b3 k3 (.object "com/example/serialyze/serialyze/engine/explore/Program$Op") (10 : Int32) [(.ref w0), .null, .null, .null, .null, .null, .null, .null, .null, .null] .null := Arv.set Ar10 q10 S10 M10 H10 G10 (own_fitR rfl rfl) W10 0 rfl (Nat.le_of_ble_eq_true rfl)
  have N16 := Fr.snoc X10 N0 (by omega : n0 ≤ b3)
  refine own_by (T' := T10) (g' := (mkF m 27 #[.val (.int p0), .val (.int p1), .val (.int p2), .val (.int sx), .val (.int kx), .unset, .unset, .unset, .unset] [(.ref b3)])) st10 ?_
  refine own_by (T' := T10) (g' := (mkF m 28 #[.val (.int p0), .val (.int p1), .val (.int p2), .val (.int sx), .val (.int kx), .unset, .unset, .unset, .unset] [(.ref b3), (.ref b3)])) (fun _ kt_ => XS.dup X10.here hx rfl (hb hby at_27) rfl rfl kt_) ?_
  refine own_by (T' := T10) (g' := (mkF m 29 #[.val (.int p0), .val (.int p1), .val (.int p2), .val (.int sx), .val (.int kx), .unset, .unset, .unset, .unset] [(.int (1 : Int32)), (.ref b3), (.ref b3)])) (fun _ kt_ => XS.iconst X10.here hx rfl (hb hby at_28) kt_) ?_
  have f17 := GS.2.2.1.ext oo13.2
  obtain ⟨T18, X18, e18, st18⟩ := getS2 X10 hx hZ hown (host := "") (Or.inl (hw _ (List.mem_of_getElem? (i := 7) rfl))) Via.refl e10 f17 (g := (mkF m 29 #[.val (.int p0), .val (.int p1), .val (.int p2), .val (.int sx), .val (.int kx), .unset, .unset, .unset, .unset] [(.int (1 : Int32)), (.ref b3), (.ref b3)])) rfl (hb hby at_29)
  refine own_by (T' := T18) (g' := (mkF m 32 #[.val (.int p0), .val (.int p1), .val (.int p2), .val (.int sx), .val (.int kx), .unset, .unset, .unset, .unset] [(.ref w1), (.int (1 : Int32)), (.ref b3), (.ref b3)])) st18 ?_
  obtain ⟨cl19, Ar19, q19, S19, M19, H19, G19⟩ := id f15
  have hin19 : ¬ ((1 : Int32) < 0 ∨ cl19.slots.size ≤ ((1 : Int32)).toNatClampNeg) := inb_of S19 ⟨by decide, by decide⟩
  have f20 := GS.2.2.2.1.ext oo13.2
  obtain ⟨T19, h19, X19, e19, W19, st19⟩ := stR X18 hx hZ e18 Ar19 (j := (1 : Int32)) hin19 rfl (Sto.ofV Ar19 q19 O3 (Ins.self f20)) (g := (mkF m 32 #[.val (.int p0), .val (.int p1), .val (.int p2), .val (.int sx), .val (.int kx), .unset, .unset, .unset, .unset] [(.ref w1), (.int (1 : Int32)), (.ref b3), (.ref b3)])) rfl rfl (hb hby at_32)
  have K21 : Keep h10 h19 [b3] := Keep.of_wr W19
  have zzK21 : h10.size ≤ h19.size := K21.1
  have oo22 : Old Z n0 h19 := oo13.keep K21 (allS (by omega : n0 ≤ b3) all0)
  have kt23 : Keep h0 h19 [] := kt14.trans K21 (allS (Or.inr (by omega : h0.size ≤ b3)) all0)
  have f24 : Arv Z h19 b3 k3 (.object "com/example/serialyze/serialyze/engine/explore/Program$Op") (10 : Int32) [(.ref w0), (.ref w1), .null, .null, .null, .null, .null, .null, .null, .null] .null := Arv.set Ar19 q19 S19 M19 H19 G19 (own_fitR rfl rfl) W19 1 rfl (Nat.le_of_ble_eq_true rfl)
  have N25 := Fr.snoc X19 N16 (by omega : n0 ≤ b3)
  refine own_by (T' := T19) (g' := (mkF m 33 #[.val (.int p0), .val (.int p1), .val (.int p2), .val (.int sx), .val (.int kx), .unset, .unset, .unset, .unset] [(.ref b3)])) st19 ?_
  refine own_by (T' := T19) (g' := (mkF m 34 #[.val (.int p0), .val (.int p1), .val (.int p2), .val (.int sx), .val (.int kx), .unset, .unset, .unset, .unset] [(.ref b3), (.ref b3)])) (fun _ kt_ => XS.dup X19.here hx rfl (hb hby at_33) rfl rfl kt_) ?_
  refine own_by (T' := T19) (g' := (mkF m 35 #[.val (.int p0), .val (.int p1), .val (.int p2), .val (.int sx), .val (.int kx), .unset, .unset, .unset, .unset] [(.int (2 : Int32)), (.ref b3), (.ref b3)])) (fun _ kt_ => XS.iconst X19.here hx rfl (hb hby at_34) kt_) ?_
  have f26 := GS.2.2.2.2.1.ext oo22.2
  obtain ⟨T27, X27, e27, st27⟩ := getS2 X19 hx hZ hown (host := "") (Or.inl (hw _ (List.mem_of_getElem? (i := 9) rfl))) Via.refl e19 f26 (g := (mkF m 35 #[.val (.int p0), .val (.int p1), .val (.int p2), .val (.int sx), .val (.int kx), .unset, .unset, .unset, .unset] [(.int (2 : Int32)), (.ref b3), (.ref b3)])) rfl (hb hby at_35)
  refine own_by (T' := T27) (g' := (mkF m 38 #[.val (.int p0), .val (.int p1), .val (.int p2), .val (.int sx), .val (.int kx), .unset, .unset, .unset, .unset] [(.ref w2), (.int (2 : Int32)), (.ref b3), (.ref b3)])) st27 ?_
  obtain ⟨cl28, Ar28, q28, S28, M28, H28, G28⟩ := id f24
  have hin28 : ¬ ((2 : Int32) < 0 ∨ cl28.slots.size ≤ ((2 : Int32)).toNatClampNeg) := inb_of S28 ⟨by decide, by decide⟩
  have f29 := GS.2.2.2.2.2.1.ext oo22.2
  obtain ⟨T28, h28, X28, e28, W28, st28⟩ := stR X27 hx hZ e27 Ar28 (j := (2 : Int32)) hin28 rfl (Sto.ofV Ar28 q28 O3 (Ins.self f29)) (g := (mkF m 38 #[.val (.int p0), .val (.int p1), .val (.int p2), .val (.int sx), .val (.int kx), .unset, .unset, .unset, .unset] [(.ref w2), (.int (2 : Int32)), (.ref b3), (.ref b3)])) rfl rfl (hb hby at_38)
  have K30 : Keep h19 h28 [b3] := Keep.of_wr W28
  have zzK30 : h19.size ≤ h28.size := K30.1
  have oo31 : Old Z n0 h28 := oo22.keep K30 (allS (by omega : n0 ≤ b3) all0)
  have kt32 : Keep h0 h28 [] := kt23.trans K30 (allS (Or.inr (by omega : h0.size ≤ b3)) all0)
  have f33 : Arv Z h28 b3 k3 (.object "com/example/serialyze/serialyze/engine/explore/Program$Op") (10 : Int32) [(.ref w0), (.ref w1), (.ref w2), .null, .null, .null, .null, .null, .null, .null] .null := Arv.set Ar28 q28 S28 M28 H28 G28 (own_fitR rfl rfl) W28 2 rfl (Nat.le_of_ble_eq_true rfl)
  have N34 := Fr.snoc X28 N25 (by omega : n0 ≤ b3)
  refine own_by (T' := T28) (g' := (mkF m 39 #[.val (.int p0), .val (.int p1), .val (.int p2), .val (.int sx), .val (.int kx), .unset, .unset, .unset, .unset] [(.ref b3)])) st28 ?_
  refine own_by (T' := T28) (g' := (mkF m 40 #[.val (.int p0), .val (.int p1), .val (.int p2), .val (.int sx), .val (.int kx), .unset, .unset, .unset, .unset] [(.ref b3), (.ref b3)])) (fun _ kt_ => XS.dup X28.here hx rfl (hb hby at_39) rfl rfl kt_) ?_
  refine own_by (T' := T28) (g' := (mkF m 41 #[.val (.int p0), .val (.int p1), .val (.int p2), .val (.int sx), .val (.int kx), .unset, .unset, .unset, .unset] [(.int (3 : Int32)), (.ref b3), (.ref b3)])) (fun _ kt_ => XS.iconst X28.here hx rfl (hb hby at_40) kt_) ?_
  have f35 := GS.2.2.2.2.2.2.1.ext oo31.2
  obtain ⟨T36, X36, e36, st36⟩ := getS2 X28 hx hZ hown (host := "") (Or.inl (hw _ (List.mem_of_getElem? (i := 11) rfl))) Via.refl e28 f35 (g := (mkF m 41 #[.val (.int p0), .val (.int p1), .val (.int p2), .val (.int sx), .val (.int kx), .unset, .unset, .unset, .unset] [(.int (3 : Int32)), (.ref b3), (.ref b3)])) rfl (hb hby at_41)
  refine own_by (T' := T36) (g' := (mkF m 44 #[.val (.int p0), .val (.int p1), .val (.int p2), .val (.int sx), .val (.int kx), .unset, .unset, .unset, .unset] [(.ref w3), (.int (3 : Int32)), (.ref b3), (.ref b3)])) st36 ?_
  obtain ⟨cl37, Ar37, q37, S37, M37, H37, G37⟩ := id f33
  have hin37 : ¬ ((3 : Int32) < 0 ∨ cl37.slots.size ≤ ((3 : Int32)).toNatClampNeg) := inb_of S37 ⟨by decide, by decide⟩
  have f38 := GS.2.2.2.2.2.2.2.1.ext oo31.2
  obtain ⟨T37, h37, X37, e37, W37, st37⟩ := stR X36 hx hZ e36 Ar37 (j := (3 : Int32)) hin37 rfl (Sto.ofV Ar37 q37 O3 (Ins.self f38)) (g := (mkF m 44 #[.val (.int p0), .val (.int p1), .val (.int p2), .val (.int sx), .val (.int kx), .unset, .unset, .unset, .unset] [(.ref w3), (.int (3 : Int32)), (.ref b3), (.ref b3)])) rfl rfl (hb hby at_44)
  have K39 : Keep h28 h37 [b3] := Keep.of_wr W37
  have zzK39 : h28.size ≤ h37.size := K39.1
  have oo40 : Old Z n0 h37 := oo31.keep K39 (allS (by omega : n0 ≤ b3) all0)
  have kt41 : Keep h0 h37 [] := kt32.trans K39 (allS (Or.inr (by omega : h0.size ≤ b3)) all0)
  have f42 : Arv Z h37 b3 k3 (.object "com/example/serialyze/serialyze/engine/explore/Program$Op") (10 : Int32) [(.ref w0), (.ref w1), (.ref w2), (.ref w3), .null, .null, .null, .null, .null, .null] .null := Arv.set Ar37 q37 S37 M37 H37 G37 (own_fitR rfl rfl) W37 3 rfl (Nat.le_of_ble_eq_true rfl)
  have N43 := Fr.snoc X37 N34 (by omega : n0 ≤ b3)
  refine own_by (T' := T37) (g' := (mkF m 45 #[.val (.int p0), .val (.int p1), .val (.int p2), .val (.int sx), .val (.int kx), .unset, .unset, .unset, .unset] [(.ref b3)])) st37 ?_
  refine own_by (T' := T37) (g' := (mkF m 46 #[.val (.int p0), .val (.int p1), .val (.int p2), .val (.int sx), .val (.int kx), .unset, .unset, .unset, .unset] [(.ref b3), (.ref b3)])) (fun _ kt_ => XS.dup X37.here hx rfl (hb hby at_45) rfl rfl kt_) ?_
  refine own_by (T' := T37) (g' := (mkF m 47 #[.val (.int p0), .val (.int p1), .val (.int p2), .val (.int sx), .val (.int kx), .unset, .unset, .unset, .unset] [(.int (4 : Int32)), (.ref b3), (.ref b3)])) (fun _ kt_ => XS.iconst X37.here hx rfl (hb hby at_46) kt_) ?_
  have f44 := GS.2.2.2.2.2.2.2.2.1.ext oo40.2
  obtain ⟨T45, X45, e45, st45⟩ := getS2 X37 hx hZ hown (host := "") (Or.inl (hw _ (List.mem_of_getElem? (i := 13) rfl))) Via.refl e37 f44 (g := (mkF m 47 #[.val (.int p0), .val (.int p1), .val (.int p2), .val (.int sx), .val (.int kx), .unset, .unset, .unset, .unset] [(.int (4 : Int32)), (.ref b3), (.ref b3)])) rfl (hb hby at_47)
  refine own_by (T' := T45) (g' := (mkF m 50 #[.val (.int p0), .val (.int p1), .val (.int p2), .val (.int sx), .val (.int kx), .unset, .unset, .unset, .unset] [(.ref w4), (.int (4 : Int32)), (.ref b3), (.ref b3)])) st45 ?_
  obtain ⟨cl46, Ar46, q46, S46, M46, H46, G46⟩ := id f42
  have hin46 : ¬ ((4 : Int32) < 0 ∨ cl46.slots.size ≤ ((4 : Int32)).toNatClampNeg) := inb_of S46 ⟨by decide, by decide⟩
  have f47 := GS.2.2.2.2.2.2.2.2.2.1.ext oo40.2
  obtain ⟨T46, h46, X46, e46, W46, st46⟩ := stR X45 hx hZ e45 Ar46 (j := (4 : Int32)) hin46 rfl (Sto.ofV Ar46 q46 O3 (Ins.self f47)) (g := (mkF m 50 #[.val (.int p0), .val (.int p1), .val (.int p2), .val (.int sx), .val (.int kx), .unset, .unset, .unset, .unset] [(.ref w4), (.int (4 : Int32)), (.ref b3), (.ref b3)])) rfl rfl (hb hby at_50)
  have K48 : Keep h37 h46 [b3] := Keep.of_wr W46
  have zzK48 : h37.size ≤ h46.size := K48.1
  have oo49 : Old Z n0 h46 := oo40.keep K48 (allS (by omega : n0 ≤ b3) all0)
  have kt50 : Keep h0 h46 [] := kt41.trans K48 (allS (Or.inr (by omega : h0.size ≤ b3)) all0)
  have f51 : Arv Z h46 b3 k3 (.object "com/example/serialyze/serialyze/engine/explore/Program$Op") (10 : Int32) [(.ref w0), (.ref w1), (.ref w2), (.ref w3), (.ref w4), .null, .null, .null, .null, .null] .null := Arv.set Ar46 q46 S46 M46 H46 G46 (own_fitR rfl rfl) W46 4 rfl (Nat.le_of_ble_eq_true rfl)
  have N52 := Fr.snoc X46 N43 (by omega : n0 ≤ b3)
  refine own_by (T' := T46) (g' := (mkF m 51 #[.val (.int p0), .val (.int p1), .val (.int p2), .val (.int sx), .val (.int kx), .unset, .unset, .unset, .unset] [(.ref b3)])) st46 ?_
  refine own_by (T' := T46) (g' := (mkF m 52 #[.val (.int p0), .val (.int p1), .val (.int p2), .val (.int sx), .val (.int kx), .unset, .unset, .unset, .unset] [(.ref b3), (.ref b3)])) (fun _ kt_ => XS.dup X46.here hx rfl (hb hby at_51) rfl rfl kt_) ?_
  refine own_by (T' := T46) (g' := (mkF m 53 #[.val (.int p0), .val (.int p1), .val (.int p2), .val (.int sx), .val (.int kx), .unset, .unset, .unset, .unset] [(.int (5 : Int32)), (.ref b3), (.ref b3)])) (fun _ kt_ => XS.iconst X46.here hx rfl (hb hby at_52) kt_) ?_
  have f53 := GS.2.2.2.2.2.2.2.2.2.2.1.ext oo49.2
  obtain ⟨T54, X54, e54, st54⟩ := getS2 X46 hx hZ hown (host := "") (Or.inl (hw _ (List.mem_of_getElem? (i := 15) rfl))) Via.refl e46 f53 (g := (mkF m 53 #[.val (.int p0), .val (.int p1), .val (.int p2), .val (.int sx), .val (.int kx), .unset, .unset, .unset, .unset] [(.int (5 : Int32)), (.ref b3), (.ref b3)])) rfl (hb hby at_53)
  refine own_by (T' := T54) (g' := (mkF m 56 #[.val (.int p0), .val (.int p1), .val (.int p2), .val (.int sx), .val (.int kx), .unset, .unset, .unset, .unset] [(.ref w5), (.int (5 : Int32)), (.ref b3), (.ref b3)])) st54 ?_
  obtain ⟨cl55, Ar55, q55, S55, M55, H55, G55⟩ := id f51
  have hin55 : ¬ ((5 : Int32) < 0 ∨ cl55.slots.size ≤ ((5 : Int32)).toNatClampNeg) := inb_of S55 ⟨by decide, by decide⟩
  have f56 := GS.2.2.2.2.2.2.2.2.2.2.2.1.ext oo49.2
  obtain ⟨T55, h55, X55, e55, W55, st55⟩ := stR X54 hx hZ e54 Ar55 (j := (5 : Int32)) hin55 rfl (Sto.ofV Ar55 q55 O3 (Ins.self f56)) (g := (mkF m 56 #[.val (.int p0), .val (.int p1), .val (.int p2), .val (.int sx), .val (.int kx), .unset, .unset, .unset, .unset] [(.ref w5), (.int (5 : Int32)), (.ref b3), (.ref b3)])) rfl rfl (hb hby at_56)
  have K57 : Keep h46 h55 [b3] := Keep.of_wr W55
  have zzK57 : h46.size ≤ h55.size := K57.1
  have oo58 : Old Z n0 h55 := oo49.keep K57 (allS (by omega : n0 ≤ b3) all0)
  have kt59 : Keep h0 h55 [] := kt50.trans K57 (allS (Or.inr (by omega : h0.size ≤ b3)) all0)
  have f60 : Arv Z h55 b3 k3 (.object "com/example/serialyze/serialyze/engine/explore/Program$Op") (10 : Int32) [(.ref w0), (.ref w1), (.ref w2), (.ref w3), (.ref w4), (.ref w5), .null, .null, .null, .null] .null := Arv.set Ar55 q55 S55 M55 H55 G55 (own_fitR rfl rfl) W55 5 rfl (Nat.le_of_ble_eq_true rfl)
  have N61 := Fr.snoc X55 N52 (by omega : n0 ≤ b3)
  refine own_by (T' := T55) (g' := (mkF m 57 #[.val (.int p0), .val (.int p1), .val (.int p2), .val (.int sx), .val (.int kx), .unset, .unset, .unset, .unset] [(.ref b3)])) st55 ?_
  refine own_by (T' := T55) (g' := (mkF m 58 #[.val (.int p0), .val (.int p1), .val (.int p2), .val (.int sx), .val (.int kx), .unset, .unset, .unset, .unset] [(.ref b3), (.ref b3)])) (fun _ kt_ => XS.dup X55.here hx rfl (hb hby at_57) rfl rfl kt_) ?_
  refine own_by (T' := T55) (g' := (mkF m 60 #[.val (.int p0), .val (.int p1), .val (.int p2), .val (.int sx), .val (.int kx), .unset, .unset, .unset, .unset] [(.int (6 : Int32)), (.ref b3), (.ref b3)])) (fun _ kt_ => XS.bipush X55.here hx rfl (hb hby at_58) kt_) ?_
  have f62 := GS.2.2.2.2.2.2.2.2.2.2.2.2.1.ext oo58.2
  obtain ⟨T63, X63, e63, st63⟩ := getS2 X55 hx hZ hown (host := "") (Or.inl (hw _ (List.mem_of_getElem? (i := 17) rfl))) Via.refl e55 f62 (g := (mkF m 60 #[.val (.int p0), .val (.int p1), .val (.int p2), .val (.int sx), .val (.int kx), .unset, .unset, .unset, .unset] [(.int (6 : Int32)), (.ref b3), (.ref b3)])) rfl (hb hby at_60)
  refine own_by (T' := T63) (g' := (mkF m 63 #[.val (.int p0), .val (.int p1), .val (.int p2), .val (.int sx), .val (.int kx), .unset, .unset, .unset, .unset] [(.ref w6), (.int (6 : Int32)), (.ref b3), (.ref b3)])) st63 ?_
  obtain ⟨cl64, Ar64, q64, S64, M64, H64, G64⟩ := id f60
  have hin64 : ¬ ((6 : Int32) < 0 ∨ cl64.slots.size ≤ ((6 : Int32)).toNatClampNeg) := inb_of S64 ⟨by decide, by decide⟩
  have f65 := GS.2.2.2.2.2.2.2.2.2.2.2.2.2.1.ext oo58.2
  obtain ⟨T64, h64, X64, e64, W64, st64⟩ := stR X63 hx hZ e63 Ar64 (j := (6 : Int32)) hin64 rfl (Sto.ofV Ar64 q64 O3 (Ins.self f65)) (g := (mkF m 63 #[.val (.int p0), .val (.int p1), .val (.int p2), .val (.int sx), .val (.int kx), .unset, .unset, .unset, .unset] [(.ref w6), (.int (6 : Int32)), (.ref b3), (.ref b3)])) rfl rfl (hb hby at_63)
  have K66 : Keep h55 h64 [b3] := Keep.of_wr W64
  have zzK66 : h55.size ≤ h64.size := K66.1
  have oo67 : Old Z n0 h64 := oo58.keep K66 (allS (by omega : n0 ≤ b3) all0)
  have kt68 : Keep h0 h64 [] := kt59.trans K66 (allS (Or.inr (by omega : h0.size ≤ b3)) all0)
  have f69 : Arv Z h64 b3 k3 (.object "com/example/serialyze/serialyze/engine/explore/Program$Op") (10 : Int32) [(.ref w0), (.ref w1), (.ref w2), (.ref w3), (.ref w4), (.ref w5), (.ref w6), .null, .null, .null] .null := Arv.set Ar64 q64 S64 M64 H64 G64 (own_fitR rfl rfl) W64 6 rfl (Nat.le_of_ble_eq_true rfl)
  have N70 := Fr.snoc X64 N61 (by omega : n0 ≤ b3)
  refine own_by (T' := T64) (g' := (mkF m 64 #[.val (.int p0), .val (.int p1), .val (.int p2), .val (.int sx), .val (.int kx), .unset, .unset, .unset, .unset] [(.ref b3)])) st64 ?_
  refine own_by (T' := T64) (g' := (mkF m 65 #[.val (.int p0), .val (.int p1), .val (.int p2), .val (.int sx), .val (.int kx), .unset, .unset, .unset, .unset] [(.ref b3), (.ref b3)])) (fun _ kt_ => XS.dup X64.here hx rfl (hb hby at_64) rfl rfl kt_) ?_
  refine own_by (T' := T64) (g' := (mkF m 67 #[.val (.int p0), .val (.int p1), .val (.int p2), .val (.int sx), .val (.int kx), .unset, .unset, .unset, .unset] [(.int (7 : Int32)), (.ref b3), (.ref b3)])) (fun _ kt_ => XS.bipush X64.here hx rfl (hb hby at_65) kt_) ?_
  have f71 := GS.2.2.2.2.2.2.2.2.2.2.2.2.2.2.1.ext oo67.2
  obtain ⟨T72, X72, e72, st72⟩ := getS2 X64 hx hZ hown (host := "") (Or.inl (hw _ (List.mem_of_getElem? (i := 19) rfl))) Via.refl e64 f71 (g := (mkF m 67 #[.val (.int p0), .val (.int p1), .val (.int p2), .val (.int sx), .val (.int kx), .unset, .unset, .unset, .unset] [(.int (7 : Int32)), (.ref b3), (.ref b3)])) rfl (hb hby at_67)
  refine own_by (T' := T72) (g' := (mkF m 70 #[.val (.int p0), .val (.int p1), .val (.int p2), .val (.int sx), .val (.int kx), .unset, .unset, .unset, .unset] [(.ref w7), (.int (7 : Int32)), (.ref b3), (.ref b3)])) st72 ?_
  obtain ⟨cl73, Ar73, q73, S73, M73, H73, G73⟩ := id f69
  have hin73 : ¬ ((7 : Int32) < 0 ∨ cl73.slots.size ≤ ((7 : Int32)).toNatClampNeg) := inb_of S73 ⟨by decide, by decide⟩
  have f74 := GS.2.2.2.2.2.2.2.2.2.2.2.2.2.2.2.1.ext oo67.2
  obtain ⟨T73, h73, X73, e73, W73, st73⟩ := stR X72 hx hZ e72 Ar73 (j := (7 : Int32)) hin73 rfl (Sto.ofV Ar73 q73 O3 (Ins.self f74)) (g := (mkF m 70 #[.val (.int p0), .val (.int p1), .val (.int p2), .val (.int sx), .val (.int kx), .unset, .unset, .unset, .unset] [(.ref w7), (.int (7 : Int32)), (.ref b3), (.ref b3)])) rfl rfl (hb hby at_70)
  have K75 : Keep h64 h73 [b3] := Keep.of_wr W73
  have zzK75 : h64.size ≤ h73.size := K75.1
  have oo76 : Old Z n0 h73 := oo67.keep K75 (allS (by omega : n0 ≤ b3) all0)
  have kt77 : Keep h0 h73 [] := kt68.trans K75 (allS (Or.inr (by omega : h0.size ≤ b3)) all0)
  have f78 : Arv Z h73 b3 k3 (.object "com/example/serialyze/serialyze/engine/explore/Program$Op") (10 : Int32) [(.ref w0), (.ref w1), (.ref w2), (.ref w3), (.ref w4), (.ref w5), (.ref w6), (.ref w7), .null, .null] .null := Arv.set Ar73 q73 S73 M73 H73 G73 (own_fitR rfl rfl) W73 7 rfl (Nat.le_of_ble_eq_true rfl)
  have N79 := Fr.snoc X73 N70 (by omega : n0 ≤ b3)
  refine own_by (T' := T73) (g' := (mkF m 71 #[.val (.int p0), .val (.int p1), .val (.int p2), .val (.int sx), .val (.int kx), .unset, .unset, .unset, .unset] [(.ref b3)])) st73 ?_
  refine own_by (T' := T73) (g' := (mkF m 72 #[.val (.int p0), .val (.int p1), .val (.int p2), .val (.int sx), .val (.int kx), .unset, .unset, .unset, .unset] [(.ref b3), (.ref b3)])) (fun _ kt_ => XS.dup X73.here hx rfl (hb hby at_71) rfl rfl kt_) ?_
  refine own_by (T' := T73) (g' := (mkF m 74 #[.val (.int p0), .val (.int p1), .val (.int p2), .val (.int sx), .val (.int kx), .unset, .unset, .unset, .unset] [(.int (8 : Int32)), (.ref b3), (.ref b3)])) (fun _ kt_ => XS.bipush X73.here hx rfl (hb hby at_72) kt_) ?_
  have f80 := GS.2.2.2.2.2.2.2.2.2.2.2.2.2.2.2.2.1.ext oo76.2
  obtain ⟨T81, X81, e81, st81⟩ := getS2 X73 hx hZ hown (host := "") (Or.inl (hw _ (List.mem_of_getElem? (i := 21) rfl))) Via.refl e73 f80 (g := (mkF m 74 #[.val (.int p0), .val (.int p1), .val (.int p2), .val (.int sx), .val (.int kx), .unset, .unset, .unset, .unset] [(.int (8 : Int32)), (.ref b3), (.ref b3)])) rfl (hb hby at_74)
  refine own_by (T' := T81) (g' := (mkF m 77 #[.val (.int p0), .val (.int p1), .val (.int p2), .val (.int sx), .val (.int kx), .unset, .unset, .unset, .unset] [(.ref w8), (.int (8 : Int32)), (.ref b3), (.ref b3)])) st81 ?_
  obtain ⟨cl82, Ar82, q82, S82, M82, H82, G82⟩ := id f78
  have hin82 : ¬ ((8 : Int32) < 0 ∨ cl82.slots.size ≤ ((8 : Int32)).toNatClampNeg) := inb_of S82 ⟨by decide, by decide⟩
  have f83 := GS.2.2.2.2.2.2.2.2.2.2.2.2.2.2.2.2.2.1.ext oo76.2
  obtain ⟨T82, h82, X82, e82, W82, st82⟩ := stR X81 hx hZ e81 Ar82 (j := (8 : Int32)) hin82 rfl (Sto.ofV Ar82 q82 O3 (Ins.self f83)) (g := (mkF m 77 #[.val (.int p0), .val (.int p1), .val (.int p2), .val (.int sx), .val (.int kx), .unset, .unset, .unset, .unset] [(.ref w8), (.int (8 : Int32)), (.ref b3), (.ref b3)])) rfl rfl (hb hby at_77)
  have K84 : Keep h73 h82 [b3] := Keep.of_wr W82
  have zzK84 : h73.size ≤ h82.size := K84.1
  have oo85 : Old Z n0 h82 := oo76.keep K84 (allS (by omega : n0 ≤ b3) all0)
  have kt86 : Keep h0 h82 [] := kt77.trans K84 (allS (Or.inr (by omega : h0.size ≤ b3)) all0)
  have f87 : Arv Z h82 b3 k3 (.object "com/example/serialyze/serialyze/engine/explore/Program$Op") (10 : Int32) [(.ref w0), (.ref w1), (.ref w2), (.ref w3), (.ref w4), (.ref w5), (.ref w6), (.ref w7), (.ref w8), .null] .null := Arv.set Ar82 q82 S82 M82 H82 G82 (own_fitR rfl rfl) W82 8 rfl (Nat.le_of_ble_eq_true rfl)
  have N88 := Fr.snoc X82 N79 (by omega : n0 ≤ b3)
  refine own_by (T' := T82) (g' := (mkF m 78 #[.val (.int p0), .val (.int p1), .val (.int p2), .val (.int sx), .val (.int kx), .unset, .unset, .unset, .unset] [(.ref b3)])) st82 ?_
  refine own_by (T' := T82) (g' := (mkF m 79 #[.val (.int p0), .val (.int p1), .val (.int p2), .val (.int sx), .val (.int kx), .unset, .unset, .unset, .unset] [(.ref b3), (.ref b3)])) (fun _ kt_ => XS.dup X82.here hx rfl (hb hby at_78) rfl rfl kt_) ?_
  refine own_by (T' := T82) (g' := (mkF m 81 #[.val (.int p0), .val (.int p1), .val (.int p2), .val (.int sx), .val (.int kx), .unset, .unset, .unset, .unset] [(.int (9 : Int32)), (.ref b3), (.ref b3)])) (fun _ kt_ => XS.bipush X82.here hx rfl (hb hby at_79) kt_) ?_
  refine own_by (T' := T82) (g' := (mkF m 82 #[.val (.int p0), .val (.int p1), .val (.int p2), .val (.int sx), .val (.int kx), .unset, .unset, .unset, .unset] [.null, (.int (9 : Int32)), (.ref b3), (.ref b3)])) (fun _ kt_ => XS.aconstNull X82.here hx rfl (hb hby at_81) kt_) ?_
  obtain ⟨cl89, Ar89, q89, S89, M89, H89, G89⟩ := id f87
  have hin89 : ¬ ((9 : Int32) < 0 ∨ cl89.slots.size ≤ ((9 : Int32)).toNatClampNeg) := inb_of S89 ⟨by decide, by decide⟩
  obtain ⟨T89, h89, X89, e89, W89, st89⟩ := stR X82 hx hZ e82 Ar89 (j := (9 : Int32)) hin89 rfl (Or.inl rfl) (g := (mkF m 82 #[.val (.int p0), .val (.int p1), .val (.int p2), .val (.int sx), .val (.int kx), .unset, .unset, .unset, .unset] [.null, (.int (9 : Int32)), (.ref b3), (.ref b3)])) rfl rfl (hb hby at_82)
  have K90 : Keep h82 h89 [b3] := Keep.of_wr W89
  have zzK90 : h82.size ≤ h89.size := K90.1
  have oo91 : Old Z n0 h89 := oo85.keep K90 (allS (by omega : n0 ≤ b3) all0)
  have kt92 : Keep h0 h89 [] := kt86.trans K90 (allS (Or.inr (by omega : h0.size ≤ b3)) all0)
  have f93 : Arv Z h89 b3 k3 (.object "com/example/serialyze/serialyze/engine/explore/Program$Op") (10 : Int32) [(.ref w0), (.ref w1), (.ref w2), (.ref w3), (.ref w4), (.ref w5), (.ref w6), (.ref w7), (.ref w8), .null] .null := Arv.set Ar89 q89 S89 M89 H89 G89 (own_fitR rfl rfl) W89 9 rfl (Nat.le_of_ble_eq_true rfl)
  have N94 := Fr.snoc X89 N88 (by omega : n0 ≤ b3)
  refine own_by (T' := T89) (g' := (mkF m 83 #[.val (.int p0), .val (.int p1), .val (.int p2), .val (.int sx), .val (.int kx), .unset, .unset, .unset, .unset] [(.ref b3)])) st89 ?_
  refine own_by (T' := T89) (g' := (mkF m 85 #[.val (.int p0), .val (.int p1), .val (.int p2), .val (.int sx), .val (.int kx), .val (.ref b3), .unset, .unset, .unset] [])) (fun _ kt_ => XS.astore X89.here hx rfl (hb hby at_83) rfl rfl (l' := #[.val (.int p0), .val (.int p1), .val (.int p2), .val (.int sx), .val (.int kx), .val (.ref b3), .unset, .unset, .unset]) rfl kt_) ?_
  refine own_by (T' := T89) (g' := (mkF m 86 #[.val (.int p0), .val (.int p1), .val (.int p2), .val (.int sx), .val (.int kx), .val (.ref b3), .unset, .unset, .unset] [(.int (3 : Int32))])) (fun _ kt_ => XS.iconst X89.here hx rfl (hb hby at_85) kt_) ?_
  obtain ⟨T95, h95, k95, X95, e95, E95, A95, O95, st95⟩ := newR X89 hx hZ hown (hw _ (List.mem_of_getElem? (i := 23) rfl)) (hw _ (List.mem_of_getElem? (i := 24) rfl)) e89 (g := (mkF m 86 #[.val (.int p0), .val (.int p1), .val (.int p2), .val (.int sx), .val (.int kx), .val (.ref b3), .unset, .unset, .unset] [(.int (3 : Int32))])) rfl (hb hby at_86) rfl (by decide) (cap := 3) (by decide) (by decide) (by decide) (by decide)
  obtain ⟨b95, g95⟩ : ∃ z, z = h89.size := ⟨_, rfl⟩
  rw [← g95] at A95 st95
  have K96 : Keep h89 h95 [] := own_kext E95
  have zzK96 : h89.size ≤ h95.size := K96.1
  have oo97 : Old Z n0 h95 := oo91.keep K96 all0
  have kt98 : Keep h0 h95 [] := kt92.trans K96 all0
  have lab95 : b95 < h95.size := A95.lt
  have f99 : Arv Z h95 b95 k95 (.object "com/example/serialyze/serialyze/engine/model/AccessKind") (3 : Int32) [.null, .null, .null] .null := (Arv.new A95 (by decide)).pad (pad_rep [] .null 3)
  refine own_by (T' := T95) (g' := (mkF m 89 #[.val (.int p0), .val (.int p1), .val (.int p2), .val (.int sx), .val (.int kx), .val (.ref b3), .unset, .unset, .unset] [(.ref b95)])) st95 ?_
  refine own_by (T' := T95) (g' := (mkF m 90 #[.val (.int p0), .val (.int p1), .val (.int p2), .val (.int sx), .val (.int kx), .val (.ref b3), .unset, .unset, .unset] [(.ref b95), (.ref b95)])) (fun _ kt_ => XS.dup X95.here hx rfl (hb hby at_89) rfl rfl kt_) ?_
  refine own_by (T' := T95) (g' := (mkF m 91 #[.val (.int p0), .val (.int p1), .val (.int p2), .val (.int sx), .val (.int kx), .val (.ref b3), .unset, .unset, .unset] [(.int (0 : Int32)), (.ref b95), (.ref b95)])) (fun _ kt_ => XS.iconst X95.here hx rfl (hb hby at_90) kt_) ?_
  have f100 := GS.2.2.2.2.2.2.2.2.2.2.2.2.2.2.2.2.2.2.1.ext oo97.2
  obtain ⟨T101, X101, e101, st101⟩ := getS2 X95 hx hZ hown (host := "") (Or.inl (hw _ (List.mem_of_getElem? (i := 25) rfl))) Via.refl e95 f100 (g := (mkF m 91 #[.val (.int p0), .val (.int p1), .val (.int p2), .val (.int sx), .val (.int kx), .val (.ref b3), .unset, .unset, .unset] [(.int (0 : Int32)), (.ref b95), (.ref b95)])) rfl (hb hby at_91)
  refine own_by (T' := T101) (g' := (mkF m 94 #[.val (.int p0), .val (.int p1), .val (.int p2), .val (.int sx), .val (.int kx), .val (.ref b3), .unset, .unset, .unset] [(.ref k0), (.int (0 : Int32)), (.ref b95), (.ref b95)])) st101 ?_
  obtain ⟨cl102, Ar102, q102, S102, M102, H102, G102⟩ := id f99
  have hin102 : ¬ ((0 : Int32) < 0 ∨ cl102.slots.size ≤ ((0 : Int32)).toNatClampNeg) := inb_of S102 ⟨by decide, by decide⟩
  have f103 := GS.2.2.2.2.2.2.2.2.2.2.2.2.2.2.2.2.2.2.2.1.ext oo97.2
  obtain ⟨T102, h102, X102, e102, W102, st102⟩ := stR X101 hx hZ e101 Ar102 (j := (0 : Int32)) hin102 rfl (Sto.ofV Ar102 q102 O95 (Ins.self f103)) (g := (mkF m 94 #[.val (.int p0), .val (.int p1), .val (.int p2), .val (.int sx), .val (.int kx), .val (.ref b3), .unset, .unset, .unset] [(.ref k0), (.int (0 : Int32)), (.ref b95), (.ref b95)])) rfl rfl (hb hby at_94)
  have K104 : Keep h95 h102 [b95] := Keep.of_wr W102
  have zzK104 : h95.size ≤ h102.size := K104.1
  have oo105 : Old Z n0 h102 := oo97.keep K104 (allS (by omega : n0 ≤ b95) all0)
  have kt106 : Keep h0 h102 [] := kt98.trans K104 (allS (Or.inr (by omega : h0.size ≤ b95)) all0)
  have f107 : Arv Z h102 b95 k95 (.object "com/example/serialyze/serialyze/engine/model/AccessKind") (3 : Int32) [(.ref k0), .null, .null] .null := Arv.set Ar102 q102 S102 M102 H102 G102 (own_fitR rfl rfl) W102 0 rfl (Nat.le_of_ble_eq_true rfl)
  have N108 := Fr.snoc X102 N94 (by omega : n0 ≤ b95)
  refine own_by (T' := T102) (g' := (mkF m 95 #[.val (.int p0), .val (.int p1), .val (.int p2), .val (.int sx), .val (.int kx), .val (.ref b3), .unset, .unset, .unset] [(.ref b95)])) st102 ?_
  refine own_by (T' := T102) (g' := (mkF m 96 #[.val (.int p0), .val (.int p1), .val (.int p2), .val (.int sx), .val (.int kx), .val (.ref b3), .unset, .unset, .unset] [(.ref b95), (.ref b95)])) (fun _ kt_ => XS.dup X102.here hx rfl (hb hby at_95) rfl rfl kt_) ?_
  refine own_by (T' := T102) (g' := (mkF m 97 #[.val (.int p0), .val (.int p1), .val (.int p2), .val (.int sx), .val (.int kx), .val (.ref b3), .unset, .unset, .unset] [(.int (1 : Int32)), (.ref b95), (.ref b95)])) (fun _ kt_ => XS.iconst X102.here hx rfl (hb hby at_96) kt_) ?_
  have f109 := GS.2.2.2.2.2.2.2.2.2.2.2.2.2.2.2.2.2.2.2.2.1.ext oo105.2
  obtain ⟨T110, X110, e110, st110⟩ := getS2 X102 hx hZ hown (host := "") (Or.inl (hw _ (List.mem_of_getElem? (i := 29) rfl))) Via.refl e102 f109 (g := (mkF m 97 #[.val (.int p0), .val (.int p1), .val (.int p2), .val (.int sx), .val (.int kx), .val (.ref b3), .unset, .unset, .unset] [(.int (1 : Int32)), (.ref b95), (.ref b95)])) rfl (hb hby at_97)
  refine own_by (T' := T110) (g' := (mkF m 100 #[.val (.int p0), .val (.int p1), .val (.int p2), .val (.int sx), .val (.int kx), .val (.ref b3), .unset, .unset, .unset] [(.ref k1), (.int (1 : Int32)), (.ref b95), (.ref b95)])) st110 ?_
  obtain ⟨cl111, Ar111, q111, S111, M111, H111, G111⟩ := id f107
  have hin111 : ¬ ((1 : Int32) < 0 ∨ cl111.slots.size ≤ ((1 : Int32)).toNatClampNeg) := inb_of S111 ⟨by decide, by decide⟩
  have f112 := GS.2.2.2.2.2.2.2.2.2.2.2.2.2.2.2.2.2.2.2.2.2.ext oo105.2
  obtain ⟨T111, h111, X111, e111, W111, st111⟩ := stR X110 hx hZ e110 Ar111 (j := (1 : Int32)) hin111 rfl (Sto.ofV Ar111 q111 O95 (Ins.self f112)) (g := (mkF m 100 #[.val (.int p0), .val (.int p1), .val (.int p2), .val (.int sx), .val (.int kx), .val (.ref b3), .unset, .unset, .unset] [(.ref k1), (.int (1 : Int32)), (.ref b95), (.ref b95)])) rfl rfl (hb hby at_100)
  have K113 : Keep h102 h111 [b95] := Keep.of_wr W111
  have zzK113 : h102.size ≤ h111.size := K113.1
  have oo114 : Old Z n0 h111 := oo105.keep K113 (allS (by omega : n0 ≤ b95) all0)
  have kt115 : Keep h0 h111 [] := kt106.trans K113 (allS (Or.inr (by omega : h0.size ≤ b95)) all0)
  have f116 : Arv Z h111 b95 k95 (.object "com/example/serialyze/serialyze/engine/model/AccessKind") (3 : Int32) [(.ref k0), (.ref k1), .null] .null := Arv.set Ar111 q111 S111 M111 H111 G111 (own_fitR rfl rfl) W111 1 rfl (Nat.le_of_ble_eq_true rfl)
  have N117 := Fr.snoc X111 N108 (by omega : n0 ≤ b95)
  refine own_by (T' := T111) (g' := (mkF m 101 #[.val (.int p0), .val (.int p1), .val (.int p2), .val (.int sx), .val (.int kx), .val (.ref b3), .unset, .unset, .unset] [(.ref b95)])) st111 ?_
  refine own_by (T' := T111) (g' := (mkF m 102 #[.val (.int p0), .val (.int p1), .val (.int p2), .val (.int sx), .val (.int kx), .val (.ref b3), .unset, .unset, .unset] [(.ref b95), (.ref b95)])) (fun _ kt_ => XS.dup X111.here hx rfl (hb hby at_101) rfl rfl kt_) ?_
  refine own_by (T' := T111) (g' := (mkF m 103 #[.val (.int p0), .val (.int p1), .val (.int p2), .val (.int sx), .val (.int kx), .val (.ref b3), .unset, .unset, .unset] [(.int (2 : Int32)), (.ref b95), (.ref b95)])) (fun _ kt_ => XS.iconst X111.here hx rfl (hb hby at_102) kt_) ?_
  refine own_by (T' := T111) (g' := (mkF m 104 #[.val (.int p0), .val (.int p1), .val (.int p2), .val (.int sx), .val (.int kx), .val (.ref b3), .unset, .unset, .unset] [.null, (.int (2 : Int32)), (.ref b95), (.ref b95)])) (fun _ kt_ => XS.aconstNull X111.here hx rfl (hb hby at_103) kt_) ?_
  obtain ⟨cl118, Ar118, q118, S118, M118, H118, G118⟩ := id f116
  have hin118 : ¬ ((2 : Int32) < 0 ∨ cl118.slots.size ≤ ((2 : Int32)).toNatClampNeg) := inb_of S118 ⟨by decide, by decide⟩
  obtain ⟨T118, h118, X118, e118, W118, st118⟩ := stR X111 hx hZ e111 Ar118 (j := (2 : Int32)) hin118 rfl (Or.inl rfl) (g := (mkF m 104 #[.val (.int p0), .val (.int p1), .val (.int p2), .val (.int sx), .val (.int kx), .val (.ref b3), .unset, .unset, .unset] [.null, (.int (2 : Int32)), (.ref b95), (.ref b95)])) rfl rfl (hb hby at_104)
  have K119 : Keep h111 h118 [b95] := Keep.of_wr W118
  have zzK119 : h111.size ≤ h118.size := K119.1
  have oo120 : Old Z n0 h118 := oo114.keep K119 (allS (by omega : n0 ≤ b95) all0)
  have kt121 : Keep h0 h118 [] := kt115.trans K119 (allS (Or.inr (by omega : h0.size ≤ b95)) all0)
  have f122 : Arv Z h118 b95 k95 (.object "com/example/serialyze/serialyze/engine/model/AccessKind") (3 : Int32) [(.ref k0), (.ref k1), .null] .null := Arv.set Ar118 q118 S118 M118 H118 G118 (own_fitR rfl rfl) W118 2 rfl (Nat.le_of_ble_eq_true rfl)
  have N123 := Fr.snoc X118 N117 (by omega : n0 ≤ b95)
  refine own_by (T' := T118) (g' := (mkF m 105 #[.val (.int p0), .val (.int p1), .val (.int p2), .val (.int sx), .val (.int kx), .val (.ref b3), .unset, .unset, .unset] [(.ref b95)])) st118 ?_
  refine own_by (T' := T118) (g' := (mkF m 107 #[.val (.int p0), .val (.int p1), .val (.int p2), .val (.int sx), .val (.int kx), .val (.ref b3), .val (.ref b95), .unset, .unset] [])) (fun _ kt_ => XS.astore X118.here hx rfl (hb hby at_105) rfl rfl (l' := #[.val (.int p0), .val (.int p1), .val (.int p2), .val (.int sx), .val (.int kx), .val (.ref b3), .val (.ref b95), .unset, .unset]) rfl kt_) ?_
  obtain ⟨T124, h124, X124, e124, E124, A124, D124, -, st124⟩ := newO X118 hx hZ hown (hw _ (List.mem_of_getElem? (i := 31) rfl)) (hw _ (List.mem_of_getElem? (i := 32) rfl)) (hw _ (List.mem_of_getElem? (i := 33) rfl)) e118 (g := (mkF m 107 #[.val (.int p0), .val (.int p1), .val (.int p2), .val (.int sx), .val (.int kx), .val (.ref b3), .val (.ref b95), .unset, .unset] [])) rfl (hb hby at_107) (by decide) (by decide)
  obtain ⟨b124, g124⟩ : ∃ z, z = h118.size := ⟨_, rfl⟩
  rw [← g124] at A124 D124 st124
  have K125 : Keep h118 h124 [] := own_kext E124
  have zzK125 : h118.size ≤ h124.size := K125.1
  have oo126 : Old Z n0 h124 := oo120.keep K125 all0
  have kt127 : Keep h0 h124 [] := kt121.trans K125 all0
  have lab124 : b124 < h124.size := A124.lt
  have f128 : Fld Z h124 b124 "com/example/serialyze/serialyze/engine/explore/Role$Event" "op" "Lcom/example/serialyze/serialyze/engine/explore/Program$Op;" .null := D124 (Or.inr (hw _ (List.mem_of_getElem? (i := 46) rfl))) (ty := (.object "com/example/serialyze/serialyze/engine/explore/Program$Op")) (by decide)
  have f129 : Fld Z h124 b124 "com/example/serialyze/serialyze/engine/explore/Role$Event" "kind" "Lcom/example/serialyze/serialyze/engine/model/AccessKind;" .null := D124 (Or.inr (hw _ (List.mem_of_getElem? (i := 48) rfl))) (ty := (.object "com/example/serialyze/serialyze/engine/model/AccessKind")) (by decide)
  have f130 : Fld Z h124 b124 "com/example/serialyze/serialyze/engine/explore/Role$Event" "operand" "I" (.int (0 : Int32)) := D124 (Or.inr (hw _ (List.mem_of_getElem? (i := 50) rfl))) (ty := .int) (by decide)
  refine own_by (T' := T124) (g' := (mkF m 110 #[.val (.int p0), .val (.int p1), .val (.int p2), .val (.int sx), .val (.int kx), .val (.ref b3), .val (.ref b95), .unset, .unset] [(.ref b124)])) st124 ?_
  refine own_by (T' := T124) (g' := (mkF m 111 #[.val (.int p0), .val (.int p1), .val (.int p2), .val (.int sx), .val (.int kx), .val (.ref b3), .val (.ref b95), .unset, .unset] [(.ref b124), (.ref b124)])) (fun _ kt_ => XS.dup X124.here hx rfl (hb hby at_110) rfl rfl kt_) ?_
  refine own_by (T' := T124) (g' := (mkF m 113 #[.val (.int p0), .val (.int p1), .val (.int p2), .val (.int sx), .val (.int kx), .val (.ref b3), .val (.ref b95), .unset, .unset] [(.ref b3), (.ref b124), (.ref b124)])) (fun _ kt_ => XS.aload X124.here hx rfl (hb hby at_111) rfl rfl kt_) ?_
  refine own_by (T' := T124) (g' := (mkF m 114 #[.val (.int p0), .val (.int p1), .val (.int p2), .val (.int sx), .val (.int kx), .val (.ref b3), .val (.ref b95), .unset, .unset] [(.int sx), (.ref b3), (.ref b124), (.ref b124)])) (fun _ kt_ => XS.iloadN X124.here hx rfl (hb hby at_113) rfl kt_) ?_
  have ne132 : b3 ≠ b95 := by omega
  have f133 : Arv Z h124 b3 k3 (.object "com/example/serialyze/serialyze/engine/explore/Program$Op") (10 : Int32) [(.ref w0), (.ref w1), (.ref w2), (.ref w3), (.ref w4), (.ref w5), (.ref w6), (.ref w7), (.ref w8), .null] .null := (((((f93.keep K96 nin0).keep K104 (ninS ne132 nin0)).keep K113 (ninS ne132 nin0)).keep K119 (ninS ne132 nin0)).keep K125 nin0)
  obtain ⟨cl131, Ar131, q131, S131, M131, H131, G131⟩ := id f133
  have hin131 : ¬ (sx < 0 ∨ cl131.slots.size ≤ (sx).toNatClampNeg) := inb_of S131 (own_inb sx 10 10 rfl hb_s)
  have hat131 : cl131.slots[(sx).toNatClampNeg]? = some (List.getD [(Value.ref w0), (Value.ref w1), (Value.ref w2), (Value.ref w3), (Value.ref w4), (Value.ref w5), (Value.ref w6), (Value.ref w7), (Value.ref w8), Value.null] (sx).toNatClampNeg Value.null) := H131.at hin131 rfl
  refine own_by (T' := T124) (g' := (mkF m 115 #[.val (.int p0), .val (.int p1), .val (.int p2), .val (.int sx), .val (.int kx), .val (.ref b3), .val (.ref b95), .unset, .unset] [(List.getD [(Value.ref w0), (Value.ref w1), (Value.ref w2), (Value.ref w3), (Value.ref w4), (Value.ref w5), (Value.ref w6), (Value.ref w7), (Value.ref w8), Value.null] (sx).toNatClampNeg Value.null), (.ref b124), (.ref b124)])) (fun _ kt_ => X124.aaload hx (j := sx) (v := (List.getD [(Value.ref w0), (Value.ref w1), (Value.ref w2), (Value.ref w3), (Value.ref w4), (Value.ref w5), (Value.ref w6), (Value.ref w7), (Value.ref w8), Value.null] (sx).toNatClampNeg Value.null)) (by rw [e124]; exact Ar131.1) (State.isArrayOf_alike hZ.alike Ar131.2.1) rfl Ar131.2.2 hin131 hat131 (g := (mkF m 114 #[.val (.int p0), .val (.int p1), .val (.int p2), .val (.int sx), .val (.int kx), .val (.ref b3), .val (.ref b95), .unset, .unset] [(.int sx), (.ref b3), (.ref b124), (.ref b124)])) rfl rfl (hb hby at_114) _ kt_) ?_
  have hvo0 := own_opR w0 w1 w2 w3 w4 w5 w6 w7 w8 sx hb_s
  have hvo1 : (List.getD [(Value.ref w0), (Value.ref w1), (Value.ref w2), (Value.ref w3), (Value.ref w4), (Value.ref w5), (Value.ref w6), (Value.ref w7), (Value.ref w8), Value.null] (sx).toNatClampNeg Value.null) = (List.getD [(Value.ref w0), (Value.ref w1), (Value.ref w2), (Value.ref w3), (Value.ref w4), (Value.ref w5), (Value.ref w6), (Value.ref w7), (Value.ref w8), Value.null] (sx).toNatClampNeg Value.null) := rfl
  generalize hq_vo : (List.getD [(Value.ref w0), (Value.ref w1), (Value.ref w2), (Value.ref w3), (Value.ref w4), (Value.ref w5), (Value.ref w6), (Value.ref w7), (Value.ref w8), Value.null] (sx).toNatClampNeg Value.null) = vo at hvo0 ⊢
  refine own_by (T' := T124) (g' := (mkF m 117 #[.val (.int p0), .val (.int p1), .val (.int p2), .val (.int sx), .val (.int kx), .val (.ref b3), .val (.ref b95), .unset, .unset] [(.ref b95), vo, (.ref b124), (.ref b124)])) (fun _ kt_ => XS.aload X124.here hx rfl (hb hby at_115) rfl rfl kt_) ?_
  refine own_by (T' := T124) (g' := (mkF m 119 #[.val (.int p0), .val (.int p1), .val (.int p2), .val (.int sx), .val (.int kx), .val (.ref b3), .val (.ref b95), .unset, .unset] [(.int kx), (.ref b95), vo, (.ref b124), (.ref b124)])) (fun _ kt_ => XS.iload X124.here hx rfl (hb hby at_117) rfl kt_) ?_
  have f135 : Arv Z h124 b95 k95 (.object "com/example/serialyze/serialyze/engine/model/AccessKind") (3 : Int32) [(.ref k0), (.ref k1), .null] .null := (f122.keep K125 nin0)
  obtain ⟨cl134, Ar134, q134, S134, M134, H134, G134⟩ := id f135
  have hin134 : ¬ (kx < 0 ∨ cl134.slots.size ≤ (kx).toNatClampNeg) := inb_of S134 (own_inb kx 3 3 rfl hb_k)
  have hat134 : cl134.slots[(kx).toNatClampNeg]? = some (List.getD [(Value.ref k0), (Value.ref k1), Value.null] (kx).toNatClampNeg Value.null) := H134.at hin134 rfl
  refine own_by (T' := T124) (g' := (mkF m 120 #[.val (.int p0), .val (.int p1), .val (.int p2), .val (.int sx), .val (.int kx), .val (.ref b3), .val (.ref b95), .unset, .unset] [(List.getD [(Value.ref k0), (Value.ref k1), Value.null] (kx).toNatClampNeg Value.null), vo, (.ref b124), (.ref b124)])) (fun _ kt_ => X124.aaload hx (j := kx) (v := (List.getD [(Value.ref k0), (Value.ref k1), Value.null] (kx).toNatClampNeg Value.null)) (by rw [e124]; exact Ar134.1) (State.isArrayOf_alike hZ.alike Ar134.2.1) rfl Ar134.2.2 hin134 hat134 (g := (mkF m 119 #[.val (.int p0), .val (.int p1), .val (.int p2), .val (.int sx), .val (.int kx), .val (.ref b3), .val (.ref b95), .unset, .unset] [(.int kx), (.ref b95), vo, (.ref b124), (.ref b124)])) rfl rfl (hb hby at_119) _ kt_) ?_
  have hvk0 := own_kR k0 k1 kx hb_k
  have hvk1 : (List.getD [(Value.ref k0), (Value.ref k1), Value.null] (kx).toNatClampNeg Value.null) = (List.getD [(Value.ref k0), (Value.ref k1), Value.null] (kx).toNatClampNeg Value.null) := rfl
  generalize hq_vk : (List.getD [(Value.ref k0), (Value.ref k1), Value.null] (kx).toNatClampNeg Value.null) = vk at hvk0 ⊢
  refine own_by (T' := T124) (g' := (mkF m 121 #[.val (.int p0), .val (.int p1), .val (.int p2), .val (.int sx), .val (.int kx), .val (.ref b3), .val (.ref b95), .unset, .unset] [(.int p2), vk, vo, (.ref b124), (.ref b124)])) (fun _ kt_ => XS.iloadN X124.here hx rfl (hb hby at_120) rfl kt_) ?_
  obtain ⟨_, _, ⟨T136, L136, k136, n136⟩, -, X136, ⟨Lc136, hQ136, l136, y136, z136⟩, st136⟩ := X124.specialBack hx (y := (⟨"com/example/serialyze/serialyze/engine/explore/Role$Event", "<init>", "(Lcom/example/serialyze/serialyze/engine/explore/Program$Op;Lcom/example/serialyze/serialyze/engine/model/AccessKind;I)V"⟩ : MethodName)) rfl hown (mvT hZ (hw _ (List.mem_of_getElem? (i := 34) rfl))) (mvT hZ (hw _ (List.mem_of_getElem? (i := 35) rfl))) (mvT hZ (hw _ (List.mem_of_getElem? (i := 36) rfl))) (by decide) (backOf (W := 1) (rmIni l Z a0 hw [] w0 w1 w2 w3 w4 w5 w6 w7 w8 k0 k1 GS b124 vo hvo0 vk hvk0 p2 h124 n0 (by omega) oo126 A124 (by omega) f128 f129 f130) hZ (hw _ (List.mem_of_getElem? (i := 36) rfl)) (hw _ (List.mem_of_getElem? (i := 33) rfl)) (by decide) (by decide)) (g := (mkF m 121 #[.val (.int p0), .val (.int p1), .val (.int p2), .val (.int sx), .val (.int kx), .val (.ref b3), .val (.ref b95), .unset, .unset] [(.int p2), vk, vo, (.ref b124), (.ref b124)])) rfl (by rw [hml]; rfl) (Steps.refl _) (a := b124) (argsL := [vo, vk, (.int p2)]) (rest := [(.ref b124)]) (lenOf own_pd_1 rfl) rfl (by show 2 * 0 + _ ≤ _; exact Nat.le_of_eq rfl) (hb hby at_121) (fun _ _ => ⟨rfl, e124, (by decide : 3 + 0 ≤ _), (by decide : 16 + 0 ≤ _)⟩)
  dsimp only [Pt.U, Pt.locs, Pt.cells, Pt.slots] at X136 l136 y136 z136 st136 hQ136
  subst l136 y136 z136
  obtain ⟨rfl, N136q, K136, p136_0, p136_1, p136_2⟩ := hQ136
  have N137 := Fr.app N123 N136q
  have zzK136 : h124.size ≤ T136.heap.size := K136.1
  have oo138 : Old Z n0 T136.heap := oo126.keep K136 (allS (by omega : n0 ≤ b124) all0)
  have kt139 : Keep h0 T136.heap [] := kt127.trans K136 (allS (Or.inr (by omega : h0.size ≤ b124)) all0)
  refine own_by (T' := T136) (g' := (mkF m 124 #[.val (.int p0), .val (.int p1), .val (.int p2), .val (.int sx), .val (.int kx), .val (.ref b3), .val (.ref b95), .unset, .unset] [(.ref b124)])) (fun _ kt_ => st136.trans kt_) ?_
  refine own_by (T' := T136) (g' := (mkF m 126 #[.val (.int p0), .val (.int p1), .val (.int p2), .val (.int sx), .val (.int kx), .val (.ref b3), .val (.ref b95), .val (.ref b124), .unset] [])) (fun _ kt_ => XS.astore X136.here hx rfl (hb hby at_124) rfl rfl (l' := #[.val (.int p0), .val (.int p1), .val (.int p2), .val (.int sx), .val (.int kx), .val (.ref b3), .val (.ref b95), .val (.ref b124), .unset]) rfl kt_) ?_
  refine own_by (T' := T136) (g' := (mkF m 127 #[.val (.int p0), .val (.int p1), .val (.int p2), .val (.int sx), .val (.int kx), .val (.ref b3), .val (.ref b95), .val (.ref b124), .unset] [(.int sx)])) (fun _ kt_ => XS.iloadN X136.here hx rfl (hb hby at_126) rfl kt_) ?_
  refine own_by (T' := T136) (g' := (mkF m 129 #[.val (.int p0), .val (.int p1), .val (.int p2), .val (.int sx), .val (.int kx), .val (.ref b3), .val (.ref b95), .val (.ref b124), .unset] [(.int (9 : Int32)), (.int sx)])) (fun _ kt_ => XS.bipush X136.here hx rfl (hb hby at_127) kt_) ?_
  by_cases hc140 : sx = (9 : Int32)
  · refine own_by (T' := T136) (g' := (mkF m 136 #[.val (.int p0), .val (.int p1), .val (.int p2), .val (.int sx), .val (.int kx), .val (.ref b3), .val (.ref b95), .val (.ref b124), .unset] [])) (fun _ kt_ => XS.icmpYes X136.here hx rfl (pc0 := 129) (pc' := 136) rfl (hb hby at_129) rfl (XT.ii_eq_t hc140) (by decide) (by decide) kt_) ?_
    refine own_by (T' := T136) (g' := (mkF m 137 #[.val (.int p0), .val (.int p1), .val (.int p2), .val (.int sx), .val (.int kx), .val (.ref b3), .val (.ref b95), .val (.ref b124), .unset] [(.int (0 : Int32))])) (fun _ kt_ => XS.iconst X136.here hx rfl (hb hby at_136) kt_) ?_
    refine own_by (T' := T136) (g' := (mkF m 139 #[.val (.int p0), .val (.int p1), .val (.int p2), .val (.int sx), .val (.int kx), .val (.ref b3), .val (.ref b95), .val (.ref b124), .val (.int (0 : Int32))] [])) (fun _ kt_ => XS.istore X136.here hx rfl (hb hby at_137) rfl (l' := #[.val (.int p0), .val (.int p1), .val (.int p2), .val (.int sx), .val (.int kx), .val (.ref b3), .val (.ref b95), .val (.ref b124), .val (.int (0 : Int32))]) rfl kt_) ?_
    refine own_by (T' := T136) (g' := (mkF m 141 #[.val (.int p0), .val (.int p1), .val (.int p2), .val (.int sx), .val (.int kx), .val (.ref b3), .val (.ref b95), .val (.ref b124), .val (.int (0 : Int32))] [(.ref b124)])) (fun _ kt_ => XS.aload X136.here hx rfl (hb hby at_139) rfl rfl kt_) ?_
    have f142 : Exa Z T136.heap b124 "com/example/serialyze/serialyze/engine/explore/Role$Event" := (A124.keep K136)
    obtain ⟨cq141, kq141, q141a, q141b, q141c⟩ := isOf hZ rfl f142
    obtain ⟨_, _, ⟨T141, L141, k141, n141⟩, -, X141, ⟨Lc141, hQ141, l141, y141, z141⟩, st141⟩ := X136.virtualBack hx (y := (⟨"com/example/serialyze/serialyze/engine/explore/Role$Event", "mine", "()Z"⟩ : MethodName)) (z := (⟨"com/example/serialyze/serialyze/engine/explore/Role$Event", "mine", "()Z"⟩ : MethodName)) hown (mvT hZ (hw _ (List.mem_of_getElem? (i := 51) rfl))) (mvT hZ (hw _ (List.mem_of_getElem? (i := 52) rfl))) (notFace_of_selects (args := #[]) (mvT hZ (hw _ (List.mem_of_getElem? (i := 54) rfl)))) (mvT hZ (hw _ (List.mem_of_getElem? (i := 54) rfl))) (mvT hZ (hw _ (List.mem_of_getElem? (i := 53) rfl))) (by decide) (backOf (W := 0) (rmMine l Z a0 hw [] w0 w1 w2 w3 w4 w5 w6 w7 w8 k0 k1 GS b124 vo hvo0 T136.heap n0 (by omega) oo138 p136_0) hZ (hw _ (List.mem_of_getElem? (i := 55) rfl)) (hw _ (List.mem_of_getElem? (i := 33) rfl)) (by decide) (by decide)) q141a q141c (g := (mkF m 141 #[.val (.int p0), .val (.int p1), .val (.int p2), .val (.int sx), .val (.int kx), .val (.ref b3), .val (.ref b95), .val (.ref b124), .val (.int (0 : Int32))] [(.ref b124)])) rfl (by rw [hml]; rfl) (Steps.refl _) (argsL := []) (rest := []) (lenOf own_pd_2 rfl) rfl (by show 2 * 0 + _ ≤ _; exact Nat.le_of_eq rfl) (hb hby at_141) (fun _ _ => ⟨rfl, rfl, (by decide : 3 + 0 ≤ _), (by decide : 16 + 0 ≤ _)⟩)
    dsimp only [Pt.U, Pt.locs, Pt.cells, Pt.slots] at X141 l141 y141 z141 st141 hQ141
    subst l141 y141 z141
    obtain ⟨rfl, N141q, e141⟩ := hQ141
    have N143 := Fr.app N137 N141q
    refine own_by (T' := T141) (g' := (mkF m 144 #[.val (.int p0), .val (.int p1), .val (.int p2), .val (.int sx), .val (.int kx), .val (.ref b3), .val (.ref b95), .val (.ref b124), .val (.int (0 : Int32))] [(.int (if vo = Value.null then (0 : Int32) else (1 : Int32)))])) (fun _ kt_ => st141.trans kt_) ?_
    refine own_by (T' := T141) (g' := (mkF m 146 #[.val (.int p0), .val (.int p1), .val (.int p2), .val (.int sx), .val (.int kx), .val (.ref b3), .val (.ref b95), .val (.ref b124), .val (.int (0 : Int32))] [(.int (0 : Int32)), (.int (if vo = Value.null then (0 : Int32) else (1 : Int32)))])) (fun _ kt_ => XS.iload X141.here hx rfl (hb hby at_144) rfl kt_) ?_
    refine own_by (T' := T141) (g' := (mkF m 149 #[.val (.int p0), .val (.int p1), .val (.int p2), .val (.int sx), .val (.int kx), .val (.ref b3), .val (.ref b95), .val (.ref b124), .val (.int (0 : Int32))] [])) (fun _ kt_ => XS.icmpNo X141.here hx rfl (hb hby at_146) rfl (XT.ii_ne_f (by rw [if_pos (hq_vo ▸ (own_opN w0 w1 w2 w3 w4 w5 w6 w7 w8 sx hb_s).mpr hc140)])) kt_) ?_
    refine own_by (T' := T141) (g' := (mkF m 150 #[.val (.int p0), .val (.int p1), .val (.int p2), .val (.int sx), .val (.int kx), .val (.ref b3), .val (.ref b95), .val (.ref b124), .val (.int (0 : Int32))] [(.int (1 : Int32))])) (fun _ kt_ => XS.iconst X141.here hx rfl (hb hby at_149) kt_) ?_
    refine own_by (T' := T141) (g' := (mkF m 154 #[.val (.int p0), .val (.int p1), .val (.int p2), .val (.int sx), .val (.int kx), .val (.ref b3), .val (.ref b95), .val (.ref b124), .val (.int (0 : Int32))] [(.int (1 : Int32))])) (fun _ kt_ => XS.goto X141.here hx rfl (pc0 := 150) (pc' := 154) rfl (hb hby at_150) (by decide) (by decide) kt_) ?_
    have hn144 : nar .boolean (1 : Int32) = (1 : Int32) := rfl
    obtain ⟨fs145, hr145, hrun145, hended145, hW145, hsame145⟩ := X141.leave (v := some (.int (nar .boolean (1 : Int32)))) (fun h => by rw [Bd.returns] at h; cases h)
    refine ⟨_, _, retN X141 hx (t := .boolean) Bd.returns (by simp) (hb hby at_154) hr145, hrun145, hended145, _, _, rfl, ?_, ⟨_, rfl⟩, hW145, hsame145.mono (by decide) (by decide)⟩
    show Q_rm0 Z w0 w1 w2 w3 w4 w5 w6 w7 w8 k0 k1 p0 p1 p2 h0 n0 _ T141.heap _
    exact ⟨(congrArg (fun z => some (Value.int z)) hn144), N143⟩
  · refine own_by (T' := T136) (g' := (mkF m 132 #[.val (.int p0), .val (.int p1), .val (.int p2), .val (.int sx), .val (.int kx), .val (.ref b3), .val (.ref b95), .val (.ref b124), .unset] [])) (fun _ kt_ => XS.icmpNo X136.here hx rfl (hb hby at_129) rfl (XT.ii_eq_f hc140) kt_) ?_
    refine own_by (T' := T136) (g' := (mkF m 133 #[.val (.int p0), .val (.int p1), .val (.int p2), .val (.int sx), .val (.int kx), .val (.ref b3), .val (.ref b95), .val (.ref b124), .unset] [(.int (1 : Int32))])) (fun _ kt_ => XS.iconst X136.here hx rfl (hb hby at_132) kt_) ?_
    refine own_by (T' := T136) (g' := (mkF m 137 #[.val (.int p0), .val (.int p1), .val (.int p2), .val (.int sx), .val (.int kx), .val (.ref b3), .val (.ref b95), .val (.ref b124), .unset] [(.int (1 : Int32))])) (fun _ kt_ => XS.goto X136.here hx rfl (pc0 := 133) (pc' := 137) rfl (hb hby at_133) (by decide) (by decide) kt_) ?_
    refine own_by (T' := T136) (g' := (mkF m 139 #[.val (.int p0), .val (.int p1), .val (.int p2), .val (.int sx), .val (.int kx), .val (.ref b3), .val (.ref b95), .val (.ref b124), .val (.int (1 : Int32))] [])) (fun _ kt_ => XS.istore X136.here hx rfl (hb hby at_137) rfl (l' := #[.val (.int p0), .val (.int p1), .val (.int p2), .val (.int sx), .val (.int kx), .val (.ref b3), .val (.ref b95), .val (.ref b124), .val (.int (1 : Int32))]) rfl kt_) ?_
    refine own_by (T' := T136) (g' := (mkF m 141 #[.val (.int p0), .val (.int p1), .val (.int p2), .val (.int sx), .val (.int kx), .val (.ref b3), .val (.ref b95), .val (.ref b124), .val (.int (1 : Int32))] [(.ref b124)])) (fun _ kt_ => XS.aload X136.here hx rfl (hb hby at_139) rfl rfl kt_) ?_
    have f147 : Exa Z T136.heap b124 "com/example/serialyze/serialyze/engine/explore/Role$Event" := (A124.keep K136)
    obtain ⟨cq146, kq146, q146a, q146b, q146c⟩ := isOf hZ rfl f147
    obtain ⟨_, _, ⟨T146, L146, k146, n146⟩, -, X146, ⟨Lc146, hQ146, l146, y146, z146⟩, st146⟩ := X136.virtualBack hx (y := (⟨"com/example/serialyze/serialyze/engine/explore/Role$Event", "mine", "()Z"⟩ : MethodName)) (z := (⟨"com/example/serialyze/serialyze/engine/explore/Role$Event", "mine", "()Z"⟩ : MethodName)) hown (mvT hZ (hw _ (List.mem_of_getElem? (i := 51) rfl))) (mvT hZ (hw _ (List.mem_of_getElem? (i := 52) rfl))) (notFace_of_selects (args := #[]) (mvT hZ (hw _ (List.mem_of_getElem? (i := 54) rfl)))) (mvT hZ (hw _ (List.mem_of_getElem? (i := 54) rfl))) (mvT hZ (hw _ (List.mem_of_getElem? (i := 53) rfl))) (by decide) (backOf (W := 0) (rmMine l Z a0 hw [] w0 w1 w2 w3 w4 w5 w6 w7 w8 k0 k1 GS b124 vo hvo0 T136.heap n0 (by omega) oo138 p136_0) hZ (hw _ (List.mem_of_getElem? (i := 55) rfl)) (hw _ (List.mem_of_getElem? (i := 33) rfl)) (by decide) (by decide)) q146a q146c (g := (mkF m 141 #[.val (.int p0), .val (.int p1), .val (.int p2), .val (.int sx), .val (.int kx), .val (.ref b3), .val (.ref b95), .val (.ref b124), .val (.int (1 : Int32))] [(.ref b124)])) rfl (by rw [hml]; rfl) (Steps.refl _) (argsL := []) (rest := []) (lenOf own_pd_2 rfl) rfl (by show 2 * 0 + _ ≤ _; exact Nat.le_of_eq rfl) (hb hby at_141) (fun _ _ => ⟨rfl, rfl, (by decide : 3 + 0 ≤ _), (by decide : 16 + 0 ≤ _)⟩)
    dsimp only [Pt.U, Pt.locs, Pt.cells, Pt.slots] at X146 l146 y146 z146 st146 hQ146
    subst l146 y146 z146
    obtain ⟨rfl, N146q, e146⟩ := hQ146
    have N148 := Fr.app N137 N146q
    refine own_by (T' := T146) (g' := (mkF m 144 #[.val (.int p0), .val (.int p1), .val (.int p2), .val (.int sx), .val (.int kx), .val (.ref b3), .val (.ref b95), .val (.ref b124), .val (.int (1 : Int32))] [(.int (if vo = Value.null then (0 : Int32) else (1 : Int32)))])) (fun _ kt_ => st146.trans kt_) ?_
    refine own_by (T' := T146) (g' := (mkF m 146 #[.val (.int p0), .val (.int p1), .val (.int p2), .val (.int sx), .val (.int kx), .val (.ref b3), .val (.ref b95), .val (.ref b124), .val (.int (1 : Int32))] [(.int (1 : Int32)), (.int (if vo = Value.null then (0 : Int32) else (1 : Int32)))])) (fun _ kt_ => XS.iload X146.here hx rfl (hb hby at_144) rfl kt_) ?_
    refine own_by (T' := T146) (g' := (mkF m 149 #[.val (.int p0), .val (.int p1), .val (.int p2), .val (.int sx), .val (.int kx), .val (.ref b3), .val (.ref b95), .val (.ref b124), .val (.int (1 : Int32))] [])) (fun _ kt_ => XS.icmpNo X146.here hx rfl (hb hby at_146) rfl (XT.ii_ne_f (by rw [if_neg (fun q => hc140 ((own_opN w0 w1 w2 w3 w4 w5 w6 w7 w8 sx hb_s).mp (hq_vo.trans q)))])) kt_) ?_
    refine own_by (T' := T146) (g' := (mkF m 150 #[.val (.int p0), .val (.int p1), .val (.int p2), .val (.int sx), .val (.int kx), .val (.ref b3), .val (.ref b95), .val (.ref b124), .val (.int (1 : Int32))] [(.int (1 : Int32))])) (fun _ kt_ => XS.iconst X146.here hx rfl (hb hby at_149) kt_) ?_
    refine own_by (T' := T146) (g' := (mkF m 154 #[.val (.int p0), .val (.int p1), .val (.int p2), .val (.int sx), .val (.int kx), .val (.ref b3), .val (.ref b95), .val (.ref b124), .val (.int (1 : Int32))] [(.int (1 : Int32))])) (fun _ kt_ => XS.goto X146.here hx rfl (pc0 := 150) (pc' := 154) rfl (hb hby at_150) (by decide) (by decide) kt_) ?_
    have hn149 : nar .boolean (1 : Int32) = (1 : Int32) := rfl
    obtain ⟨fs150, hr150, hrun150, hended150, hW150, hsame150⟩ := X146.leave (v := some (.int (nar .boolean (1 : Int32)))) (fun h => by rw [Bd.returns] at h; cases h)
    refine ⟨_, _, retN X146 hx (t := .boolean) Bd.returns (by simp) (hb hby at_154) hr150, hrun150, hended150, _, _, rfl, ?_, ⟨_, rfl⟩, hW150, hsame150.mono (by decide) (by decide)⟩
    show Q_rm0 Z w0 w1 w2 w3 w4 w5 w6 w7 w8 k0 k1 p0 p1 p2 h0 n0 _ T146.heap _
    exact ⟨(congrArg (fun z => some (Value.int z)) hn149), N148⟩
set_option maxRecDepth 65536 in
set_option maxHeartbeats 40000000 in
theorem comes_1 {Post : Tables → Env → Array Value → State → Outcome → State → Prop} (hpost : ∀ tb e args s v u, (limb_1_1.after args s (.returned v) u = true ∧ limb_1_2.after args s (.returned v) u = true ∧ True) → FrameEnd s (.returned v) u (Jvm.fieldLocs frame_1_writes args s ++ Jvm.arrayLocs frame_1_arrays args s ++ Jvm.staticLocs frame_1_statics s) 16 128 → Post tb e args s (.returned v) u) :
    ArmFor flags0 classFile x code maxLocals ret World_1 tables_1 room_1 Calls_1 rest_1 Pre_1 Post := by
  intro l hfl _ _ p e ha hc hk s m args below hf hA hF happ hP
  obtain ⟨hcalls, hrest, hpre⟩ := hP
  obtain ⟨-, -, -, hnamed, -, -, -, hat⟩ := (Spec.applies_iff hf).mp happ
  obtain ⟨hg, hn⟩ := and_e (Cond.before_iff.mp (show (Jvm.Cond.and given_1 narrow_1).before args s = true from hpre))
  obtain ⟨g1a, g1b⟩ := and_e hg
  obtain ⟨g2a, g2b⟩ := and_e g1b
  obtain ⟨g3a, g3b⟩ := and_e g2b
  obtain ⟨g4a, g4b⟩ := and_e hn
  obtain ⟨g5a, g5b⟩ := and_e g4b
  obtain ⟨g6a, g6b⟩ := and_e g5b
  obtain ⟨g7a, g7b⟩ := and_e g6b
  obtain ⟨g8a, g8b⟩ := and_e g7b
  obtain ⟨g9a, g9b⟩ := and_e g8b
  obtain ⟨g10a, g10b⟩ := and_e g9b
  obtain ⟨g11a, g11b⟩ := and_e g10b
  obtain ⟨g12a, g12b⟩ := and_e g11b
  obtain ⟨g13a, g13b⟩ := and_e g12b
  obtain ⟨w0, w1, w2, rfl⟩ : ∃ w0 w1 w2 : Value, args = #[w0, w1, w2] := by
    have hs : args.size = 3 := by simpa [Cond.value, given_1] using g1a
    obtain ⟨L⟩ := args
    match L, hs with
    | [w0, w1, w2], _ => exact ⟨w0, w1, w2, rfl⟩
  have hw := fun d (hd : d ∈ tables_1) => atoms_spec (ws := Jvm.Cond.code x code maxLocals ret :: tables_1) hat d (List.mem_cons_of_mem _ hd)
  have hfit : Fit s := fun {y c} hc i hi => by
    obtain ⟨ha, rfl⟩ := Array.getElem?_eq_some_iff.mp hc
    have q := List.all_eq_true.mp ((Array.all_eq_true_iff_forall_mem.mp hF) _ (Array.getElem_mem ha)) i (List.mem_range.mpr hi)
    simpa [Array.getElem?_eq_getElem hi] using q
  obtain ⟨i0, ei0⟩ := is_v g2a
  obtain rfl : w0 = (.int i0) := Option.some.inj ei0
  obtain ⟨i1, ei1⟩ := is_v g3a
  obtain rfl : w1 = (.int i1) := Option.some.inj ei1
  obtain ⟨i2, ei2⟩ := is_v g3b
  obtain rfl : w2 = (.int i2) := Option.some.inj ei2
  obtain ⟨w0, ev_w0⟩ := exa_v g4a
  have sta_w0 := Sta.start ev_w0 (Or.inr ⟨(hw _ (List.mem_of_getElem? (i := 4) rfl)), (hw _ (List.mem_of_getElem? (i := 5) rfl))⟩)
  obtain ⟨w1, ev_w1⟩ := exa_v g5a
  have sta_w1 := Sta.start ev_w1 (Or.inr ⟨(hw _ (List.mem_of_getElem? (i := 4) rfl)), (hw _ (List.mem_of_getElem? (i := 8) rfl))⟩)
  obtain ⟨w2, ev_w2⟩ := exa_v g6a
  have sta_w2 := Sta.start ev_w2 (Or.inr ⟨(hw _ (List.mem_of_getElem? (i := 4) rfl)), (hw _ (List.mem_of_getElem? (i := 10) rfl))⟩)
  obtain ⟨w3, ev_w3⟩ := exa_v g7a
  have sta_w3 := Sta.start ev_w3 (Or.inr ⟨(hw _ (List.mem_of_getElem? (i := 4) rfl)), (hw _ (List.mem_of_getElem? (i := 12) rfl))⟩)
  obtain ⟨w4, ev_w4⟩ := exa_v g8a
  have sta_w4 := Sta.start ev_w4 (Or.inr ⟨(hw _ (List.mem_of_getElem? (i := 4) rfl)), (hw _ (List.mem_of_getElem? (i := 14) rfl))⟩)
  obtain ⟨w5, ev_w5⟩ := exa_v g9a
  have sta_w5 := Sta.start ev_w5 (Or.inr ⟨(hw _ (List.mem_of_getElem? (i := 4) rfl)), (hw _ (List.mem_of_getElem? (i := 16) rfl))⟩)
  obtain ⟨w6, ev_w6⟩ := exa_v g10a
  have sta_w6 := Sta.start ev_w6 (Or.inr ⟨(hw _ (List.mem_of_getElem? (i := 4) rfl)), (hw _ (List.mem_of_getElem? (i := 18) rfl))⟩)
  obtain ⟨w7, ev_w7⟩ := exa_v g11a
  have sta_w7 := Sta.start ev_w7 (Or.inr ⟨(hw _ (List.mem_of_getElem? (i := 4) rfl)), (hw _ (List.mem_of_getElem? (i := 20) rfl))⟩)
  obtain ⟨w8, ev_w8⟩ := exa_v g12a
  have sta_w8 := Sta.start ev_w8 (Or.inr ⟨(hw _ (List.mem_of_getElem? (i := 4) rfl)), (hw _ (List.mem_of_getElem? (i := 22) rfl))⟩)
  obtain ⟨k0, ev_k0⟩ := exa_v g13a
  have sta_k0 := Sta.start ev_k0 (Or.inr ⟨(hw _ (List.mem_of_getElem? (i := 26) rfl)), (hw _ (List.mem_of_getElem? (i := 27) rfl))⟩)
  obtain ⟨k1, ev_k1⟩ := exa_v g13b
  have sta_k1 := Sta.start ev_k1 (Or.inr ⟨(hw _ (List.mem_of_getElem? (i := 26) rfl)), (hw _ (List.mem_of_getElem? (i := 30) rfl))⟩)
  have exa_w0 := Exa.start ev_w0 g4a
  have exa_w1 := Exa.start ev_w1 g5a
  have exa_w2 := Exa.start ev_w2 g6a
  have exa_w3 := Exa.start ev_w3 g7a
  have exa_w4 := Exa.start ev_w4 g8a
  have exa_w5 := Exa.start ev_w5 g9a
  have exa_w6 := Exa.start ev_w6 g10a
  have exa_w7 := Exa.start ev_w7 g11a
  have exa_w8 := Exa.start ev_w8 g12a
  have exa_k0 := Exa.start ev_k0 g13a
  have exa_k1 := Exa.start ev_k1 g13b
  have GS : Glob s w0 w1 w2 w3 w4 w5 w6 w7 w8 k0 k1 := ⟨sta_w0, exa_w0, sta_w1, exa_w1, sta_w2, exa_w2, sta_w3, exa_w3, sta_w4, exa_w4, sta_w5, exa_w5, sta_w6, exa_w6, sta_w7, exa_w7, sta_w8, exa_w8, sta_k0, exa_k0, sta_k1, exa_k1⟩
  obtain ⟨n, o, h1, h2, h3, _, L, rfl, ⟨rfl, N⟩, hq⟩ := rm0 l s _ hw tables_1 w0 w1 w2 w3 w4 w5 w6 w7 w8 k0 k1 GS i0 i1 i2 s.heap s.heap.size (Nat.le_refl _) (Old.start s) p e ha hc hk s m _ below hf ((Spec.applies_iff_loose hf).mp happ).1 ⟨rfl, State.Warmed39.refl s, rfl⟩ trivial
  refine ⟨n, _, h1, h2, h3, hpost _ _ _ _ _ _ ⟨Cond.after_iff.mpr rfl, Cond.after_iff.mpr (eq_i res_at (Term.int_eval (1)) rfl), trivial⟩ ⟨hq.1, hq.2.1, (hq.2.2.sift fun y hy => Or.inr (N y hy)).mono (by decide) (by decide)⟩⟩
theorem main_1_1 : Claimed_1_1 := comes_1 fun _ _ _ _ _ _ h hF => ⟨h.1, hF⟩
theorem main_1_2 : Claimed_1_2 := comes_1 fun _ _ _ _ _ _ h hF => ⟨h.2.1, hF⟩
end Jvm.Pilot.@@N@@
namespace Jvm.Pilot.@@N@@
open Jvm Jvm.ClassFile Sem Op Lib Jvm.Free Jvm.Stand Jvm.Pilot.@@N@@.Jvm.D
/-! MADE BY PROGRAM (witnessworld.py) out of the Statement's table words and the real class files: 17 classes; the members and pool entries that the words name. The judged class is class 1, her method 1. -/
namespace start1
open Jvm.ClassFile
def u (s : String) : CpInfo := .utf8 (stringToUtf16 s)
/-- a pool by its gaps: so many unusable entries, then the entry; so many at the end -/
def gap : Nat → List CpInfo → List CpInfo
  | 0, r => r
  | n + 1, r => .unusable :: gap n r
def poolList (es : List (Nat × CpInfo)) (last : Nat) : List CpInfo := es.foldr (fun e r => gap e.1 (e.2 :: r)) (gap last [])
def pool (es : List (Nat × CpInfo)) (last : Nat) : Array CpInfo := ⟨poolList es last⟩
def fileOf (pool : Array CpInfo) (this : Nat) (attrs : Array Attribute := #[]) (ms : Array MethodInfo := #[]) (fl : Nat := 33) (sup : Nat := 0) (ifs : Array Nat := #[]) (fds : Array FieldInfo := #[]) : ClassFile where
  minorVersion := 0
  majorVersion := 65
  constantPool := pool
  accessFlags := fl
  thisClass := this
  superClass := sup
  interfaces := ifs
  fields := fds
  methods := ms
  attributes := attrs
def plain (name : String) (sup : Option ClassId) : Class where
  name := name
  kind := .ordinary
  loader := none
  accessFlags := 33
  super := sup
  interfaces := #[]
  cf := none
  fields := #[]
  methods := #[]
  instanceTypes := #[]
  staticTypes := #[]
  resolved := #[]
  callSites := []
  init := .initialized
  statics := none
  mirror := none

def pool0 : Array CpInfo := pool [(5, u "<init>"), (0, u "()V"), (1, .class_ 10), (1, u "java/lang/Object")] 113

def k0c0 : Code := { maxStack := 0, maxLocals := 1, code := object_method_1_code, exceptionTable := #[], attributes := #[] }
def k0m0 : Method := { name := "<init>", desc := "()V", sig := { parameters := [], returnType := none }, accessFlags := 1, code := some k0c0 }
/-- java/lang/Object -/
def k0 : Class := { plain "java/lang/Object" none with
  accessFlags := 33
  interfaces := #[]
  cf := some (fileOf pool0 8 #[] #[{ accessFlags := 1, nameIndex := 5, descriptorIndex := 6, attributes := #[] }] 33 0 #[] #[])
  fields := #[]
  methods := #[k0m0]
  instanceTypes := #[]
  staticTypes := #[]
  resolved := Array.replicate 124 none
  statics := none }

def pool1 : Array CpInfo := pool [(2, .class_ 4), (1, u "java/lang/Object"), (0, u "<init>"), (0, u "()V"), (0, .integer 2147483647), (0, .class_ 9), (0, u "com/example/serialyze/serialyze/engine/explore/Program$Op"), (0, .fieldref 8 11), (0, .nameAndType 12 13), (0, u "ACCESS"), (0, u "Lcom/example/serialyze/serialyze/engine/explore/Program$Op;"), (0, .fieldref 8 15), (0, .nameAndType 16 13), (0, u "ACQUIRE"), (0, .fieldref 8 18), (0, .nameAndType 19 13), (0, u "RELEASE"), (0, .fieldref 8 21), (0, .nameAndType 22 13), (0, u "START"), (0, .fieldref 8 24), (0, .nameAndType 25 13), (0, u "ENTER_UNIT"), (0, .fieldref 8 27), (0, .nameAndType 28 13), (0, u "EXIT_UNIT"), (0, .fieldref 8 30), (0, .nameAndType 31 13), (0, u "BRANCH"), (0, .fieldref 8 33), (0, .nameAndType 34 13), (0, u "CALL"), (0, .fieldref 8 36), (0, .nameAndType 37 13), (0, u "RETURN"), (0, .class_ 39), (0, u "com/example/serialyze/serialyze/engine/model/AccessKind"), (0, .fieldref 38 41), (0, .nameAndType 42 43), (0, u "READ"), (0, u "Lcom/example/serialyze/serialyze/engine/model/AccessKind;"), (0, .fieldref 38 45), (0, .nameAndType 46 43), (0, u "WRITE"), (0, .class_ 48), (0, u "com/example/serialyze/serialyze/engine/explore/Role$Event"), (0, .methodref 47 50), (0, .nameAndType 5 51), (0, u "(Lcom/example/serialyze/serialyze/engine/explore/Program$Op;Lcom/example/serialyze/serialyze/engine/model/AccessKind;I)V"), (0, .methodref 47 53), (0, .nameAndType 54 55), (0, u "mine"), (0, u "()Z"), (0, .class_ 57), (0, u "com/example/serialyze/serialyze/engine/explore/EventMinePinLaw"), (2, u "law"), (0, u "(III)Z")] 14

def k1m0 : Method := { name := "<init>", desc := "()V", sig := { parameters := [], returnType := none }, accessFlags := 1, code := none }
def k1c1 : Code := { maxStack := 5, maxLocals := 9, code := code, exceptionTable := #[], attributes := #[] }
def k1m1 : Method := { name := "law", desc := "(III)Z", sig := { parameters := [.int, .int, .int], returnType := some .boolean }, accessFlags := 9, code := some k1c1 }
/-- com/example/serialyze/serialyze/engine/explore/EventMinePinLaw -/
def k1 : Class := { plain "com/example/serialyze/serialyze/engine/explore/EventMinePinLaw" (some 0) with
  accessFlags := 49
  interfaces := #[]
  cf := some (fileOf pool1 56 #[] #[{ accessFlags := 1, nameIndex := 5, descriptorIndex := 6, attributes := #[] }, { accessFlags := 9, nameIndex := 60, descriptorIndex := 61, attributes := #[] }] 49 2 #[] #[])
  fields := #[]
  methods := #[k1m0, k1m1]
  instanceTypes := #[]
  staticTypes := #[]
  resolved := Array.replicate 76 none
  statics := none }

def pool2 : Array CpInfo := pool [(1, .class_ 2), (0, u "java/lang/constant/Constable"), (0, .class_ 4), (0, u "java/lang/Object")] 6

/-- java/lang/constant/Constable -/
def k2 : Class := { plain "java/lang/constant/Constable" (some 0) with
  accessFlags := 1537
  interfaces := #[]
  cf := some (fileOf pool2 1 #[] #[] 1537 3 #[] #[])
  fields := #[]
  methods := #[]
  instanceTypes := #[]
  staticTypes := #[]
  resolved := Array.replicate 11 none
  statics := none }

def pool3 : Array CpInfo := pool [(1, .class_ 2), (0, u "java/lang/Comparable"), (0, .class_ 4), (0, u "java/lang/Object")] 7

/-- java/lang/Comparable -/
def k3 : Class := { plain "java/lang/Comparable" (some 0) with
  accessFlags := 1537
  interfaces := #[]
  cf := some (fileOf pool3 1 #[] #[] 1537 3 #[] #[])
  fields := #[]
  methods := #[]
  instanceTypes := #[]
  staticTypes := #[]
  resolved := Array.replicate 12 none
  statics := none }

def pool4 : Array CpInfo := pool [(1, .class_ 2), (0, u "java/io/Serializable"), (0, .class_ 4), (0, u "java/lang/Object")] 2

/-- java/io/Serializable -/
def k4 : Class := { plain "java/io/Serializable" (some 0) with
  accessFlags := 1537
  interfaces := #[]
  cf := some (fileOf pool4 1 #[] #[] 1537 3 #[] #[])
  fields := #[]
  methods := #[]
  instanceTypes := #[]
  staticTypes := #[]
  resolved := Array.replicate 7 none
  statics := none }

def pool5 : Array CpInfo := pool [(2, .class_ 4), (1, u "java/lang/Enum"), (0, u "name"), (0, u "Ljava/lang/String;"), (2, u "ordinal"), (0, u "I"), (1, .class_ 14), (1, u "java/lang/Object"), (4, u "hash"), (86, .class_ 108), (1, u "java/lang/Enum$EnumDesc"), (2, .class_ 112), (0, u "java/lang/constant/Constable"), (0, .class_ 114), (0, u "java/lang/Comparable"), (0, .class_ 116), (0, u "java/io/Serializable")] 87

/-- java/lang/Enum -/
def k5 : Class := { plain "java/lang/Enum" (some 0) with
  accessFlags := 1057
  interfaces := #[2, 3, 4]
  cf := some (fileOf pool5 2 #[.nestMembers #[106]] #[] 1057 12 #[111, 113, 115] #[{ accessFlags := 18, nameIndex := 5, descriptorIndex := 6, attributes := #[] }, { accessFlags := 18, nameIndex := 9, descriptorIndex := 10, attributes := #[] }, { accessFlags := 2, nameIndex := 19, descriptorIndex := 10, attributes := #[] }])
  fields := #[{ name := "name", type := (.object "java/lang/String"), accessFlags := 18, slot := 0, constantValue := 0 }, { name := "ordinal", type := .int, accessFlags := 18, slot := 1, constantValue := 0 }, { name := "hash", type := .int, accessFlags := 2, slot := 2, constantValue := 0 }]
  methods := #[]
  instanceTypes := #[(.object "java/lang/String"), .int, .int]
  staticTypes := #[]
  resolved := Array.replicate 204 none
  statics := none }

def pool6 : Array CpInfo := pool [(1, .class_ 2), (0, u "com/example/serialyze/serialyze/engine/explore/Program$Op"), (2, u "ACCESS"), (0, u "Lcom/example/serialyze/serialyze/engine/explore/Program$Op;"), (2, u "ACQUIRE"), (2, u "RELEASE"), (2, u "START"), (2, u "ENTER_UNIT"), (2, u "EXIT_UNIT"), (2, u "BRANCH"), (2, u "CALL"), (2, u "RETURN"), (2, u "$VALUES"), (0, u "[Lcom/example/serialyze/serialyze/engine/explore/Program$Op;"), (6, .class_ 43), (1, u "java/lang/Enum"), (32, .class_ 77), (0, u "com/example/serialyze/serialyze/engine/explore/Program")] 2

/-- com/example/serialyze/serialyze/engine/explore/Program$Op -/
def k6 : Class := { plain "com/example/serialyze/serialyze/engine/explore/Program$Op" (some 5) with
  accessFlags := 16432
  interfaces := #[]
  cf := some (fileOf pool6 1 #[.nestHost 76] #[] 16432 41 #[] #[{ accessFlags := 16409, nameIndex := 5, descriptorIndex := 6, attributes := #[] }, { accessFlags := 16409, nameIndex := 9, descriptorIndex := 6, attributes := #[] }, { accessFlags := 16409, nameIndex := 12, descriptorIndex := 6, attributes := #[] }, { accessFlags := 16409, nameIndex := 15, descriptorIndex := 6, attributes := #[] }, { accessFlags := 16409, nameIndex := 18, descriptorIndex := 6, attributes := #[] }, { accessFlags := 16409, nameIndex := 21, descriptorIndex := 6, attributes := #[] }, { accessFlags := 16409, nameIndex := 24, descriptorIndex := 6, attributes := #[] }, { accessFlags := 16409, nameIndex := 27, descriptorIndex := 6, attributes := #[] }, { accessFlags := 16409, nameIndex := 30, descriptorIndex := 6, attributes := #[] }, { accessFlags := 4122, nameIndex := 33, descriptorIndex := 34, attributes := #[] }])
  fields := #[{ name := "ACCESS", type := (.object "com/example/serialyze/serialyze/engine/explore/Program$Op"), accessFlags := 16409, slot := 0, constantValue := 0 }, { name := "ACQUIRE", type := (.object "com/example/serialyze/serialyze/engine/explore/Program$Op"), accessFlags := 16409, slot := 1, constantValue := 0 }, { name := "RELEASE", type := (.object "com/example/serialyze/serialyze/engine/explore/Program$Op"), accessFlags := 16409, slot := 2, constantValue := 0 }, { name := "START", type := (.object "com/example/serialyze/serialyze/engine/explore/Program$Op"), accessFlags := 16409, slot := 3, constantValue := 0 }, { name := "ENTER_UNIT", type := (.object "com/example/serialyze/serialyze/engine/explore/Program$Op"), accessFlags := 16409, slot := 4, constantValue := 0 }, { name := "EXIT_UNIT", type := (.object "com/example/serialyze/serialyze/engine/explore/Program$Op"), accessFlags := 16409, slot := 5, constantValue := 0 }, { name := "BRANCH", type := (.object "com/example/serialyze/serialyze/engine/explore/Program$Op"), accessFlags := 16409, slot := 6, constantValue := 0 }, { name := "CALL", type := (.object "com/example/serialyze/serialyze/engine/explore/Program$Op"), accessFlags := 16409, slot := 7, constantValue := 0 }, { name := "RETURN", type := (.object "com/example/serialyze/serialyze/engine/explore/Program$Op"), accessFlags := 16409, slot := 8, constantValue := 0 }, { name := "$VALUES", type := (.array (.object "com/example/serialyze/serialyze/engine/explore/Program$Op")), accessFlags := 4122, slot := 9, constantValue := 0 }]
  methods := #[]
  instanceTypes := #[(.object "java/lang/String"), .int, .int]
  staticTypes := #[(.object "com/example/serialyze/serialyze/engine/explore/Program$Op"), (.object "com/example/serialyze/serialyze/engine/explore/Program$Op"), (.object "com/example/serialyze/serialyze/engine/explore/Program$Op"), (.object "com/example/serialyze/serialyze/engine/explore/Program$Op"), (.object "com/example/serialyze/serialyze/engine/explore/Program$Op"), (.object "com/example/serialyze/serialyze/engine/explore/Program$Op"), (.object "com/example/serialyze/serialyze/engine/explore/Program$Op"), (.object "com/example/serialyze/serialyze/engine/explore/Program$Op"), (.object "com/example/serialyze/serialyze/engine/explore/Program$Op"), (.array (.object "com/example/serialyze/serialyze/engine/explore/Program$Op"))]
  resolved := Array.replicate 80 none
  statics := some 0 }

def pool7 : Array CpInfo := pool [(1, .class_ 2), (0, u "com/example/serialyze/serialyze/engine/model/AccessKind"), (2, u "READ"), (0, u "Lcom/example/serialyze/serialyze/engine/model/AccessKind;"), (2, u "WRITE"), (2, u "$VALUES"), (0, u "[Lcom/example/serialyze/serialyze/engine/model/AccessKind;"), (6, .class_ 22), (1, u "java/lang/Enum")] 24

/-- com/example/serialyze/serialyze/engine/model/AccessKind -/
def k7 : Class := { plain "com/example/serialyze/serialyze/engine/model/AccessKind" (some 5) with
  accessFlags := 16433
  interfaces := #[]
  cf := some (fileOf pool7 1 #[] #[] 16433 20 #[] #[{ accessFlags := 16409, nameIndex := 5, descriptorIndex := 6, attributes := #[] }, { accessFlags := 16409, nameIndex := 9, descriptorIndex := 6, attributes := #[] }, { accessFlags := 4122, nameIndex := 12, descriptorIndex := 13, attributes := #[] }])
  fields := #[{ name := "READ", type := (.object "com/example/serialyze/serialyze/engine/model/AccessKind"), accessFlags := 16409, slot := 0, constantValue := 0 }, { name := "WRITE", type := (.object "com/example/serialyze/serialyze/engine/model/AccessKind"), accessFlags := 16409, slot := 1, constantValue := 0 }, { name := "$VALUES", type := (.array (.object "com/example/serialyze/serialyze/engine/model/AccessKind")), accessFlags := 4122, slot := 2, constantValue := 0 }]
  methods := #[]
  instanceTypes := #[(.object "java/lang/String"), .int, .int]
  staticTypes := #[(.object "com/example/serialyze/serialyze/engine/model/AccessKind"), (.object "com/example/serialyze/serialyze/engine/model/AccessKind"), (.array (.object "com/example/serialyze/serialyze/engine/model/AccessKind"))]
  resolved := Array.replicate 47 none
  statics := some 1 }

def pool8 : Array CpInfo := pool [(1, .methodref 2 3), (0, .class_ 4), (0, .nameAndType 5 6), (0, u "java/lang/Object"), (0, u "<init>"), (0, u "()V"), (0, .class_ 8), (0, u "java/lang/Record")] 13

def k8c0 : Code := { maxStack := 1, maxLocals := 1, code := jdk_30_method_1_code, exceptionTable := #[], attributes := #[] }
def k8m0 : Method := { name := "<init>", desc := "()V", sig := { parameters := [], returnType := none }, accessFlags := 4, code := some k8c0 }
/-- java/lang/Record -/
def k8 : Class := { plain "java/lang/Record" (some 0) with
  accessFlags := 1057
  interfaces := #[]
  cf := some (fileOf pool8 7 #[] #[{ accessFlags := 4, nameIndex := 5, descriptorIndex := 6, attributes := #[] }] 1057 2 #[] #[])
  fields := #[]
  methods := #[k8m0]
  instanceTypes := #[]
  staticTypes := #[]
  resolved := Array.replicate 22 none
  statics := none }

def pool9 : Array CpInfo := pool [(1, .methodref 2 3), (0, .class_ 4), (0, .nameAndType 5 6), (0, u "java/lang/Record"), (0, u "<init>"), (0, u "()V"), (0, .fieldref 8 9), (0, .class_ 10), (0, .nameAndType 11 12), (0, u "com/example/serialyze/serialyze/engine/explore/Role$Event"), (0, u "op"), (0, u "Lcom/example/serialyze/serialyze/engine/explore/Program$Op;"), (0, .fieldref 8 14), (0, .nameAndType 15 16), (0, u "kind"), (0, u "Lcom/example/serialyze/serialyze/engine/model/AccessKind;"), (0, .fieldref 8 18), (0, .nameAndType 19 20), (0, u "operand"), (0, u "I"), (7, u "(Lcom/example/serialyze/serialyze/engine/explore/Program$Op;Lcom/example/serialyze/serialyze/engine/model/AccessKind;I)V"), (28, u "OTHERS"), (0, u "Lcom/example/serialyze/serialyze/engine/explore/Role$Event;"), (7, u "mine"), (0, u "()Z"), (9, .class_ 78), (0, u "com/example/serialyze/serialyze/engine/explore/Role")] 25

def k9c0 : Code := { maxStack := 2, maxLocals := 4, code := prog_32_method_1_code, exceptionTable := #[], attributes := #[] }
def k9m0 : Method := { name := "<init>", desc := "(Lcom/example/serialyze/serialyze/engine/explore/Program$Op;Lcom/example/serialyze/serialyze/engine/model/AccessKind;I)V", sig := { parameters := [(.object "com/example/serialyze/serialyze/engine/explore/Program$Op"), (.object "com/example/serialyze/serialyze/engine/model/AccessKind"), .int], returnType := none }, accessFlags := 0, code := some k9c0 }
def k9c1 : Code := { maxStack := 1, maxLocals := 1, code := prog_32_method_4_code, exceptionTable := #[], attributes := #[] }
def k9m1 : Method := { name := "mine", desc := "()Z", sig := { parameters := [], returnType := some .boolean }, accessFlags := 0, code := some k9c1 }
/-- com/example/serialyze/serialyze/engine/explore/Role$Event -/
def k9 : Class := { plain "com/example/serialyze/serialyze/engine/explore/Role$Event" (some 8) with
  accessFlags := 48
  interfaces := #[]
  cf := some (fileOf pool9 8 #[.nestHost 77] #[{ accessFlags := 0, nameIndex := 5, descriptorIndex := 28, attributes := #[] }, { accessFlags := 0, nameIndex := 66, descriptorIndex := 67, attributes := #[] }] 48 2 #[] #[{ accessFlags := 18, nameIndex := 11, descriptorIndex := 12, attributes := #[] }, { accessFlags := 18, nameIndex := 15, descriptorIndex := 16, attributes := #[] }, { accessFlags := 18, nameIndex := 19, descriptorIndex := 20, attributes := #[] }, { accessFlags := 24, nameIndex := 57, descriptorIndex := 58, attributes := #[] }])
  fields := #[{ name := "op", type := (.object "com/example/serialyze/serialyze/engine/explore/Program$Op"), accessFlags := 18, slot := 0, constantValue := 0 }, { name := "kind", type := (.object "com/example/serialyze/serialyze/engine/model/AccessKind"), accessFlags := 18, slot := 1, constantValue := 0 }, { name := "operand", type := .int, accessFlags := 18, slot := 2, constantValue := 0 }, { name := "OTHERS", type := (.object "com/example/serialyze/serialyze/engine/explore/Role$Event"), accessFlags := 24, slot := 0, constantValue := 0 }]
  methods := #[k9m0, k9m1]
  instanceTypes := #[(.object "com/example/serialyze/serialyze/engine/explore/Program$Op"), (.object "com/example/serialyze/serialyze/engine/model/AccessKind"), .int]
  staticTypes := #[(.object "com/example/serialyze/serialyze/engine/explore/Role$Event")]
  resolved := Array.replicate 104 none
  statics := none }

def pool10 : Array CpInfo := pool [(1, u "java/lang/Cloneable"), (0, .class_ 1), (0, u "java/lang/Object"), (0, .class_ 3)] 3

/-- java/lang/Cloneable -/
def k10 : Class := { plain "java/lang/Cloneable" (some 0) with
  accessFlags := 1537
  interfaces := #[]
  cf := some (fileOf pool10 2 #[] #[] 1537 4 #[] #[])
  fields := #[]
  methods := #[]
  instanceTypes := #[]
  staticTypes := #[]
  resolved := Array.replicate 8 none
  statics := none }

/-- the primitive byte -/
def k11 : Class := { plain "byte" none with kind := .primitive 'B', accessFlags := 0x411 }
/-- [B -/
def k12 : Class := { plain "[B" (some 0) with kind := .array 11 .byte, interfaces := #[10, 4], accessFlags := 1041 }

/-- the primitive int -/
def k13 : Class := { plain "int" none with kind := .primitive 'I', accessFlags := 0x411 }
/-- [I -/
def k14 : Class := { plain "[I" (some 0) with kind := .array 13 .int, interfaces := #[10, 4], accessFlags := 1041 }

/-- [Lcom/example/serialyze/serialyze/engine/explore/Program$Op; -/
def k15 : Class := { plain "[Lcom/example/serialyze/serialyze/engine/explore/Program$Op;" (some 0) with kind := .array 6 (.object "com/example/serialyze/serialyze/engine/explore/Program$Op"), interfaces := #[10, 4], accessFlags := 1041 }

/-- [Lcom/example/serialyze/serialyze/engine/model/AccessKind; -/
def k16 : Class := { plain "[Lcom/example/serialyze/serialyze/engine/model/AccessKind;" (some 0) with kind := .array 7 (.object "com/example/serialyze/serialyze/engine/model/AccessKind"), interfaces := #[10, 4], accessFlags := 1041 }

def heap : Heap := #[{ cls := 6, slots := #[.ref 2, .ref 3, .ref 4, .ref 5, .ref 6, .ref 7, .ref 8, .ref 9, .ref 10, .null], vm := .statics 6 },
  { cls := 7, slots := #[.ref 11, .ref 12, .null], vm := .statics 7 },
  { cls := 6, slots := #[.null, .int 0, .int 0], vm := .none },
  { cls := 6, slots := #[.null, .int 0, .int 0], vm := .none },
  { cls := 6, slots := #[.null, .int 0, .int 0], vm := .none },
  { cls := 6, slots := #[.null, .int 0, .int 0], vm := .none },
  { cls := 6, slots := #[.null, .int 0, .int 0], vm := .none },
  { cls := 6, slots := #[.null, .int 0, .int 0], vm := .none },
  { cls := 6, slots := #[.null, .int 0, .int 0], vm := .none },
  { cls := 6, slots := #[.null, .int 0, .int 0], vm := .none },
  { cls := 6, slots := #[.null, .int 0, .int 0], vm := .none },
  { cls := 7, slots := #[.null, .int 0, .int 0], vm := .none },
  { cls := 7, slots := #[.null, .int 0, .int 0], vm := .none }]
def classes : Array Class := #[k0, k1, k2, k3, k4, k5, k6, k7, k8, k9, k10, k11, k12, k13, k14, k15, k16]
def interned : List (Array UInt16 × Addr) := []
def slotsUsed : Nat := 46
def theMethod : MethodId := ⟨1, 1⟩
def args0 : Array Value := #[.int 1, .int 2, .int 3]
def aboutOver (below : List Frame) : State where
  vm := { classes := classes, interned := interned.toArray }
  heap := heap
  slotsUsed := slotsUsed
  threads := #[{ frames := .invoking theMethod args0 :: below }]
def below0 : List Frame := [.native { method := ⟨0, 0⟩, args := #[] }]
def about1 : State := aboutOver below0
def p0 : Program := .bare "" "" ""
def e0 : Env := launch0.env 0 0 0
theorem w_frames : about1.frames = Frame.invoking theMethod args0 :: below0 := rfl
set_option maxRecDepth 65536 in
theorem w_args : argsFit about1.vm theMethod args0 = true := by decide +kernel
set_option maxRecDepth 65536 in
theorem w_heap : heapFits about1 = true := by decide +kernel
set_option maxRecDepth 65536 in
theorem w_runnable : about1.curStatus? = some .runnable := by decide +kernel
set_option maxRecDepth 65536 in
theorem w_alone : about1.alone = true := by decide +kernel
set_option maxRecDepth 65536 in
theorem w_named : about1.methodNamed? x = some theMethod := by decide +kernel
set_option maxRecDepth 65536 in
theorem w_hears : about1.hears theMethod below0 = true := by decide +kernel
set_option maxRecDepth 65536 in
theorem w_ripe : about1.ripe theMethod args0 below0 = true := by decide +kernel
theorem w_running : about1.status = .running := rfl
set_option maxRecDepth 65536 in
theorem w_room : about1.hasRoom e0.platform room_1 = true :=
  launch0.hasRoom_least _ room_1 (by decide +kernel) (by decide +kernel) (by decide +kernel) (by decide +kernel) (by decide +kernel) (by decide +kernel)
theorem allAtoms_all (ts : List Jvm.Cond) (a : Array Jvm.Value) (st : Jvm.State) : (allAtoms ts).before a st = ts.all (fun c => c.before a st) := by
  induction ts with
  | nil => rfl
  | cons c t ih =>
    show (Jvm.Cond.and c (allAtoms t)).before a st = _
    rw [Jvm.Cond.before_and, ih, List.all_cons]
def words1 : List Jvm.Cond := Jvm.Cond.code x code maxLocals ret :: tables_1
/-- a 'code' word, met by the world's own term for the bytes: nothing is compared byte by byte -/
theorem code_word {y : MethodName} {bytes : ByteArray} {mx : Nat} {rt : Option FieldType} {a : Array Value} {s : State} {m : MethodId} {meth : Method} {c : Code} (h1 : s.methodNamed? y = some m) (h2 : s.vm.method? m = some meth) (h3 : meth.code = some c) (h4 : c.code = bytes)
    (h5 : (c.maxLocals == mx && c.exceptionTable.isEmpty && decide (c.maxStack ≤ mostOperands) && decide (meth.sig.returnType = rt) && !meth.locks && decide (parseMethodDescriptor y.desc = some meth.sig)) = true) : (Jvm.Cond.code y bytes mx rt).before a s = true := by
  simp only [Bool.and_eq_true, beq_iff_eq, Bool.not_eq_true', decide_eq_true_eq] at h5
  obtain ⟨⟨⟨⟨⟨g1, g2⟩, g3⟩, g4⟩, g5⟩, g6⟩ := h5
  simp [Cond.before, Cond.holds, Cond.value, h1, h2, h3, h4, g1, g2, g3, g4, g5, g6]
def isCode : Jvm.Cond → Bool
  | .code _ _ _ _ => true
  | _ => false
theorem all_split {L : List Jvm.Cond} {P : Jvm.Cond → Bool} (h1 : L.all (fun c => isCode c || P c) = true) (h2 : ∀ c ∈ L.filter isCode, P c = true) : L.all P = true := by
  refine List.all_eq_true.mpr fun c hc => ?_
  have h := List.all_eq_true.mp h1 c hc
  rcases Bool.eq_false_or_eq_true (isCode c) with hi | hi
  · exact h2 c (List.mem_filter.mpr ⟨hc, hi⟩)
  · simpa [hi] using h
set_option maxRecDepth 65536 in
theorem w_c0 : (Jvm.Cond.code x code maxLocals ret).before args0 about1 = true := code_word (m := ⟨1, 1⟩) (meth := k1m1) (c := k1c1) (by decide +kernel) rfl rfl rfl (by decide +kernel)
set_option maxRecDepth 65536 in
theorem w_c1 : (Jvm.Cond.code ({ cls := "com/example/serialyze/serialyze/engine/explore/Role$Event", name := "<init>", desc := "(Lcom/example/serialyze/serialyze/engine/explore/Program$Op;Lcom/example/serialyze/serialyze/engine/model/AccessKind;I)V" } : Jvm.MethodName) prog_32_method_1_code (4 : Nat) (Option.none : Option Jvm.ClassFile.FieldType)).before args0 about1 = true := code_word (m := ⟨9, 0⟩) (meth := k9m0) (c := k9c0) (by decide +kernel) rfl rfl rfl (by decide +kernel)
set_option maxRecDepth 65536 in
theorem w_c2 : (Jvm.Cond.code ({ cls := "java/lang/Record", name := "<init>", desc := "()V" } : Jvm.MethodName) jdk_30_method_1_code (1 : Nat) (Option.none : Option Jvm.ClassFile.FieldType)).before args0 about1 = true := code_word (m := ⟨8, 0⟩) (meth := k8m0) (c := k8c0) (by decide +kernel) rfl rfl rfl (by decide +kernel)
set_option maxRecDepth 65536 in
theorem w_c3 : (Jvm.Cond.code ({ cls := "java/lang/Object", name := "<init>", desc := "()V" } : Jvm.MethodName) object_method_1_code (1 : Nat) (Option.none : Option Jvm.ClassFile.FieldType)).before args0 about1 = true := code_word (m := ⟨0, 0⟩) (meth := k0m0) (c := k0c0) (by decide +kernel) rfl rfl rfl (by decide +kernel)
set_option maxRecDepth 65536 in
theorem w_c4 : (Jvm.Cond.code ({ cls := "com/example/serialyze/serialyze/engine/explore/Role$Event", name := "mine", desc := "()Z" } : Jvm.MethodName) prog_32_method_4_code (1 : Nat) (Option.some Jvm.ClassFile.FieldType.boolean)).before args0 about1 = true := code_word (m := ⟨9, 1⟩) (meth := k9m1) (c := k9c1) (by decide +kernel) rfl rfl rfl (by decide +kernel)
def codes1 : List Jvm.Cond := [Jvm.Cond.code x code maxLocals ret, Jvm.Cond.code ({ cls := "com/example/serialyze/serialyze/engine/explore/Role$Event", name := "<init>", desc := "(Lcom/example/serialyze/serialyze/engine/explore/Program$Op;Lcom/example/serialyze/serialyze/engine/model/AccessKind;I)V" } : Jvm.MethodName) prog_32_method_1_code (4 : Nat) (Option.none : Option Jvm.ClassFile.FieldType), Jvm.Cond.code ({ cls := "java/lang/Record", name := "<init>", desc := "()V" } : Jvm.MethodName) jdk_30_method_1_code (1 : Nat) (Option.none : Option Jvm.ClassFile.FieldType), Jvm.Cond.code ({ cls := "java/lang/Object", name := "<init>", desc := "()V" } : Jvm.MethodName) object_method_1_code (1 : Nat) (Option.none : Option Jvm.ClassFile.FieldType), Jvm.Cond.code ({ cls := "com/example/serialyze/serialyze/engine/explore/Role$Event", name := "mine", desc := "()Z" } : Jvm.MethodName) prog_32_method_4_code (1 : Nat) (Option.some Jvm.ClassFile.FieldType.boolean)]
set_option maxRecDepth 65536 in
theorem codes_eq : words1.filter isCode = codes1 := rfl
theorem w_codes : ∀ c ∈ words1.filter isCode, c.before args0 about1 = true := by
  rw [codes_eq]
  intro c hc
  simp only [codes1, List.mem_cons, List.not_mem_nil, or_false] at hc
  rcases hc with rfl | rfl | rfl | rfl | rfl
  · exact w_c0
  · exact w_c1
  · exact w_c2
  · exact w_c3
  · exact w_c4
set_option maxRecDepth 65536 in
theorem w_t1 : (words1.take 24).all (fun c => isCode c || c.before args0 about1) = true := by decide +kernel
set_option maxRecDepth 65536 in
theorem w_t2 : ((words1.drop 24).take 24).all (fun c => isCode c || c.before args0 about1) = true := by decide +kernel
set_option maxRecDepth 65536 in
theorem w_t3 : ((words1.drop 24).drop 24).all (fun c => isCode c || c.before args0 about1) = true := by decide +kernel
theorem w_tables : (allAtoms (Jvm.Cond.code x code maxLocals ret :: tables_1)).before args0 about1 = true := by
  rw [allAtoms_all]
  show words1.all (fun c => c.before args0 about1) = true
  refine all_split ?_ w_codes
  rw [← List.take_append_drop 24 words1, List.all_append, w_t1, ← List.take_append_drop 24 (words1.drop 24), List.all_append, w_t2, w_t3]
  rfl
set_option maxRecDepth 65536 in
theorem w_case : (Jvm.Cond.and given_1 narrow_1).before args0 about1 = true := by decide +kernel
theorem w_applies : (headSpec (Jvm.Cond.code x code maxLocals ret :: tables_1) room_1).applies x e0.platform about1 = true :=
  (Spec.applies_iff w_frames).mpr ⟨w_running, w_runnable, w_alone, w_named, w_hears, w_ripe, w_room, w_tables⟩
theorem atStart : AtStart classFile x code maxLocals ret World_1 tables_1 room_1 Calls_1 rest_1 Pre_1 launch0 p0 e0 about1 theMethod args0 below0 :=
  ⟨lists_1, trivial, launch0.admits_env _ _ _, launch0.least_env, fairChoices_fair.cas, fairChoices_fair.clock, w_frames, w_args, w_heap, w_applies, trivial, trivial, w_case⟩
end start1
theorem witness_1 : WitnessClaimed_1 := ⟨start1.p0, start1.e0, start1.about1, start1.theMethod, start1.args0, start1.below0, start1.atStart⟩
end Jvm.Pilot.@@N@@
