import JvmDerived
import JvmDerived.Pilot.@@N@@Statement
import JvmDerived.Pilot.@@N@@Code
set_option linter.unusedVariables false
set_option linter.unusedSimpArgs false
namespace Jvm.Pilot.@@N@@
open Jvm Jvm.ClassFile Sem Op Lib Jvm.Free Jvm.Stand Jvm.LawKit Jvm.RoadKit Bundle Jvm.Pilot.@@N@@.Jvm.D
/-! 0. the walk's goal, and how a step leads to it -/
def OGoal (p : Program) (e : Env) (below : List Frame) (Φ : Outcome → State → Prop) (T : State) (g : JFrame) : Prop :=
  ∃ s₂ o, Steps p.tables e below (T.setTop g) s₂ ∧ s₂.status = .running ∧ Ended s₂ below o ∧ Φ o s₂
theorem own_by {p : Program} {e : Env} {below : List Frame} {Φ : Outcome → State → Prop} {T T' : State} {g g' : JFrame}
    (st : ∀ t, Steps p.tables e below (T'.setTop g') t → Steps p.tables e below (T.setTop g) t) (G : OGoal p e below Φ T' g') : OGoal p e below Φ T g := by
  obtain ⟨s₂, o, h1, h2⟩ := G
  exact ⟨s₂, o, st _ h1, h2⟩
theorem own_enter {p : Program} {e : Env} {below : List Frame} {Φ : Outcome → State → Prop} {T : State} {g g' : JFrame} (q : g = g') (G : OGoal p e below Φ T g') :
    ∃ s₂ o, Steps p.tables e below (T.setTop g) s₂ ∧ s₂.status = .running ∧ Ended s₂ below o ∧ Φ o s₂ := by subst q; exact G
theorem own_kext {h h' : Heap} (E : Ext h h') : Keep h h' [] := (Keep.refl h []).ext E
theorem own_narR {ty : FieldType} {v : Value} (hty : ty.isReference = true) (h : v.isRef = true) : narrow ty v = v := by
  rcases ref_cases h with rfl | ⟨a, rfl⟩ <;> cases ty <;> first | rfl | (cases hty)
theorem own_fitR {ty : FieldType} {v : Value} (hty : ty.isReference = true) (h : v.isRef = true) : fits ty v = true := by
  rcases ref_cases h with rfl | ⟨a, rfl⟩ <;> cases ty <;> first | rfl | (cases hty)
theorem own_narC (x : Int32) : nar .char (x.toUInt32.toUInt16.toUInt32.toInt32) = x.toUInt32.toUInt16.toUInt32.toInt32 := by
  show (x.toUInt32.toUInt16.toUInt32.toInt32).toUInt32.toUInt16.toUInt32.toInt32 = _
  simp only [UInt32.toUInt32_toInt32, UInt16.toUInt16_toUInt32]
theorem own_narB (x : Int32) : nar .byte (x.toInt8.toInt32) = x.toInt8.toInt32 := by
  show (x.toInt8.toInt32).toInt8.toInt32 = _
  simp
theorem own_fldI {Z : State} {args : Array Value} {t : Term} {a : Addr} {C n d : String} {k : Int32} (ev : t.eval args Z none [] Z = some (.ref a)) (h : (Jvm.Cond.eq (.field t C n d) (.int k)).value args Z none Z [] = some true) : Fld Z Z.heap a C n d (.int k) :=
  Fld.start ((fld_at ev).symm.trans (eqv_i (Term.int_eval k) h))
theorem own_fldJ {Z : State} {args : Array Value} {t : Term} {a : Addr} {C n d : String} {k : Int64} (ev : t.eval args Z none [] Z = some (.ref a)) (h : (Jvm.Cond.eq (.field t C n d) (.long k)).value args Z none Z [] = some true) : Fld Z Z.heap a C n d (.long k) :=
  Fld.start ((fld_at ev).symm.trans (eqv_l (F := .long k) rfl h))
theorem own_len {Z : State} {args : Array Value} {t : Term} {a : Addr} {c : Cell} {ty : FieldType} {n : Int32} (ev : t.eval args Z none [] Z = some (.ref a)) (A : Arr Z Z.heap a c ty) (h : (Jvm.Cond.eq (.length t) (.int n)).value args Z none Z [] = some true) : c.slots.size < 2 ^ 31 ∧ c.slots.size.toInt32 = n := by
  have e1 := eqv_i (Term.int_eval n) h
  have ha := A.fin (Vm.Alike.refl _)
  simp only [Term.eval, ev, Option.bind_eq_bind, Option.bind_some, ha] at e1
  split at e1
  · rename_i q; exact ⟨q, by simpa using e1⟩
  · cases e1
theorem own_bxF {Z : State} {args : Array Value} {j : Int32} (nn : ¬ j < 0) : (Term.sub (.index 0) (.int (128 : Int32))).eval args Z none [j.toNatClampNeg] Z = some (.int (j - (128 : Int32))) := by
  have e := idx_at (args := args) (s := Z) (first := Z) (o := none) nn
  simp only [Term.eval] at e ⊢
  rw [e]
  rfl
def Glob (Z : State) (wC : Addr) (cC : Cell) : Prop := Sta Z Z.heap "java/lang/Integer$IntegerCache" "high" "I" (.int (127 : Int32)) ∧ Sta Z Z.heap "java/lang/Integer$IntegerCache" "cache" "[Ljava/lang/Integer;" (.ref wC) ∧ Bxs Z wC cC "java/lang/Integer" "I" (256 : Int32) (fun j => Value.int (j - (128 : Int32)))
theorem own_nsroot {Z : State} {a0 : Array Value} {O K : String} {n : Nat} (w : (Jvm.Cond.noSuperclass O).before a0 Z = true) (wk : (Jvm.Cond.instantiable K n).before a0 Z = true) (hn : O ≠ K) : NS Z O K := by
  obtain ⟨c, k, h1, h2, h3, -⟩ := Cond.noSuperclass_spec w
  obtain ⟨t, kt, g1, -⟩ := Cond.instantiable_spec wk
  have ne := ids_ne h1 g1 hn
  refine ⟨c, t, h1, g1, fun fuel => ?_⟩
  cases fuel with
  | zero => rfl
  | succ f => simp [Vm.isSubclassAux, ne, h2, h3]
theorem own_noinst {Z : State} {a0 : Array Value} {C S K : String} {n : Nat} (w : (Jvm.Cond.superclass C S).before a0 Z = true) (wk : (Jvm.Cond.instantiable K n).before a0 Z = true) (q : NS Z C K) (hn : C ≠ K) : ∃ c t, Z.vm.findClass C = some c ∧ Z.vm.findClass K = some t ∧ Z.vm.assignable c t = false := by
  obtain ⟨c, t, h0, g0, n3⟩ := q
  obtain ⟨p, k, kp, h1, h2, h3, h4, h5, -, h7⟩ := Cond.superclass_spec h0 w
  obtain ⟨t', kt, g1, g2, g3, g4, -⟩ := Cond.instantiable_spec wk
  cases g0.symm.trans g1
  have ne := ids_ne h0 g0 hn
  have g5 : kt.isInterface = false := by
    cases hq : kt.isInterface with
    | false => rfl
    | true => simp [hq] at g4
  refine ⟨c, t, h0, g0, ?_⟩
  show Z.vm.assignableAux (255 + 1) c t = false
  simp [Vm.assignableAux, ne, h2, g2, h5, g3, g5, Vm.isSubclass, n3]
def posF (x : Int32) : Int32 := if (x &&& (2147483647 : Int32)) = (0 : Int32) then (1 : Int32) else (x &&& (2147483647 : Int32))
theorem own_pos (x : Int32) : ¬ posF x < (1 : Int32) := by
  unfold posF
  have h := c_mask x (2147483647 : Int32) 31 (by decide) (by decide)
  have h0 : 0 ≤ (x &&& (2147483647 : Int32)).toInt := by rw [h]; exact Int.emod_nonneg _ (by decide)
  by_cases q : (x &&& (2147483647 : Int32)) = (0 : Int32)
  · rw [if_pos q]; decide
  · rw [if_neg q]
    have : (x &&& (2147483647 : Int32)).toInt ≠ 0 := fun r => q (Int32.toInt_inj.mp (r.trans (by decide)))
    rw [Int32.lt_iff_toInt_lt, show (1 : Int32).toInt = 1 from rfl]; omega
theorem own_bxin (n : Int32) (h1 : ¬ n < (-128 : Int32)) (h2 : ¬ (127 : Int32) < n) : ¬ (n + (128 : Int32)) < 0 ∧ (n + (128 : Int32)) < (256 : Int32) := by
  rw [Int32.lt_iff_toInt_lt] at h1 h2
  have c := c_iadd n (128 : Int32)
  have a := Int32.le_toInt (n + (128 : Int32))
  have b := Int32.toInt_lt (n + (128 : Int32))
  rw [Int32.lt_iff_toInt_lt, Int32.lt_iff_toInt_lt, show (0 : Int32).toInt = 0 from rfl, show (256 : Int32).toInt = 256 from rfl]
  rw [show (128 : Int32).toInt = 128 from rfl] at c
  rw [show (-128 : Int32).toInt = -128 from rfl] at h1
  rw [show (127 : Int32).toInt = 127 from rfl] at h2
  omega
theorem own_d7_0 : decode jdk_18_method_1_code 0 = .ok (.aload_n 0, 1) := by decide +kernel
theorem own_d7_1 : decode jdk_18_method_1_code 1 = .ok (.invokespecial 1, 3) := by decide +kernel
theorem own_d7_4 : decode jdk_18_method_1_code 4 = .ok (.return_, 1) := by decide +kernel
theorem own_pn_java_lang_Number : plainName "java/lang/Number" = true := by first | (simp [plainName, overriddenIn]; done) | decide +kernel
theorem own_ef_rmNum (m : MethodId) (x0 : Addr) : entryFrame m #[(.ref x0)] 1 = mkF m 0 #[.val (.ref x0)] [] := by first | (simp [entryFrame, mkF, argsToLocals, Value.category]; done) | rfl
def Q_rmNum (Z : State) (wC : Addr) (cC : Cell) (a : Addr) (h0 : Heap) (n0 : Nat) (vv_ : Option Value) (hh_ : Heap) (LL_ : List Loc) : Prop := vv_ = none ∧ Fr n0 LL_ ∧ hh_ = h0
set_option maxRecDepth 65536 in
set_option maxHeartbeats 40000000 in
theorem rmNum (l : Launch) (Z : State) (a0 : Array Value) (hw : ∀ d ∈ tables_1, d.before a0 Z = true) (ws : List Jvm.Cond) (wC : Addr) (cC : Cell) (GS : Glob Z wC cC) (a : Addr) (h0 : Heap) (n0 : Nat) (Z0 : n0 ≤ h0.size) (O0 : Old Z n0 h0) :
    MetFree l (⟨"java/lang/Number", "<init>", "()V"⟩ : MethodName) (head1 (Jvm.Cond.code (⟨"java/lang/Number", "<init>", "()V"⟩ : MethodName) jdk_18_method_1_code 1 none :: ws) ({ frames := 1, cells := 0, slots := 0, locals := 12 } : Room)) (fun aa_ UU_ => aa_ = #[(.ref a)] ∧ Z.Warmed39 UU_.vm ∧ UU_.heap = h0) (fun _ _ _ _ _ => True) (fun _ UU_ oo_ UV_ => ∃ vv_ LL_, oo_ = .returned vv_ ∧ Q_rmNum Z wC cC a h0 n0 vv_ UV_.heap LL_ ∧ FrameEnd UU_ oo_ UV_ LL_ ({ frames := 1, cells := 0, slots := 0, locals := 12 } : Room).cells ({ frames := 1, cells := 0, slots := 0, locals := 12 } : Room).slots) := by
  refine MetFree.of_bodySF (plainFor_of_name own_pn_java_lang_Number) hisR ?_
  intro p e s m args below meth c s₁ Bd hml0 hP hK
  obtain ⟨rfl, hZ, hh⟩ := hP
  have hx := Bd.exec
  have hby := Bd.bytes
  have hml : c.maxLocals = 1 := hml0
  have hown : s.vm.findClass "java/lang/Number" = some m.cls := findClass_of_methodNamed Bd.named
  have hnm := (name_of_methodNamed Bd.named Bd.method).1
  have X0 : Stand p l e ({ frames := 1, cells := 0, slots := 0, locals := 12 } : Room) s m #[(.ref a)] below meth c s₁ [] 0 0 := Stand.of_body Bd
  have e0 : s₁.heap = h0 := by rw [← hh, Bd.state]; rfl
  have N0 := Fr.nil n0
  have hn0 : Z.heap.size = n0 := O0.1
  have KT0 : Keep h0 h0 [] := Keep.refl _ _
  refine own_enter (Φ := fun oo_ UV_ => ∃ vv_ LL_, oo_ = .returned vv_ ∧ Q_rmNum Z wC cC a h0 n0 vv_ UV_.heap LL_ ∧ FrameEnd s oo_ UV_ LL_ ({ frames := 1, cells := 0, slots := 0, locals := 12 } : Room).cells ({ frames := 1, cells := 0, slots := 0, locals := 12 } : Room).slots) (own_ef_rmNum m a) ?_
  refine own_by (T' := s₁) (g' := (mkF m 1 #[.val (.ref a)] [(.ref a)])) (fun _ kt_ => XS.aloadN X0.here hx rfl (hb hby own_d7_0) rfl rfl kt_) ?_
  obtain ⟨T1, X1, e1, st1⟩ := initO X0 hx hZ hown (hw _ (List.mem_of_getElem? (i := 43) rfl)) (hw _ (List.mem_of_getElem? (i := 12) rfl)) (hw _ (List.mem_of_getElem? (i := 13) rfl)) e0 (g := (mkF m 1 #[.val (.ref a)] [(.ref a)])) rfl (by rw [hml]; rfl) rfl (hb hby own_d7_1) (by decide) (W := 0) (by show 2 * 0 + _ ≤ _; exact Nat.le_of_eq rfl) (by decide)
  refine own_by (T' := T1) (g' := (mkF m 4 #[.val (.ref a)] [])) st1 ?_
  obtain ⟨fs2, hr2, hrun2, hended2, hW2, hsame2⟩ := X1.leave (v := none) (fun _ => rfl)
  refine ⟨_, _, X1.returnOut hx Bd.returns (hb hby own_d7_4) hr2, hrun2, hended2, _, _, rfl, ?_, ⟨_, rfl⟩, hW2, hsame2.mono (by decide) (by decide)⟩
  show Q_rmNum Z wC cC a h0 n0 _ T1.heap _
  exact ⟨rfl, N0, e1⟩
theorem own_pd_0 : parseMethodDescriptor "()V" = some ⟨[], none⟩ := by decide +kernel
theorem own_d6_0 : decode jdk_33_method_23_code 0 = .ok (.aload_n 0, 1) := by decide +kernel
theorem own_d6_1 : decode jdk_33_method_23_code 1 = .ok (.invokespecial 202, 3) := by decide +kernel
theorem own_d6_4 : decode jdk_33_method_23_code 4 = .ok (.aload_n 0, 1) := by decide +kernel
theorem own_d6_5 : decode jdk_33_method_23_code 5 = .ok (.iload_n 1, 1) := by decide +kernel
theorem own_d6_6 : decode jdk_33_method_23_code 6 = .ok (.putfield 205, 3) := by decide +kernel
theorem own_d6_9 : decode jdk_33_method_23_code 9 = .ok (.return_, 1) := by decide +kernel
theorem own_pn_java_lang_Integer : plainName "java/lang/Integer" = true := by first | (simp [plainName, overriddenIn]; done) | decide +kernel
theorem own_ef_rmIntI (m : MethodId) (x0 : Addr) (x1 : Int32) : entryFrame m #[(.ref x0), (.int x1)] 2 = mkF m 0 #[.val (.ref x0), .val (.int x1)] [] := by first | (simp [entryFrame, mkF, argsToLocals, Value.category]; done) | rfl
def Q_rmIntI (Z : State) (wC : Addr) (cC : Cell) (a : Addr) (n : Int32) (h0 : Heap) (n0 : Nat) (vv_ : Option Value) (hh_ : Heap) (LL_ : List Loc) : Prop := vv_ = none ∧ Fr n0 LL_ ∧ Keep h0 hh_ [a] ∧ Fld Z hh_ a "java/lang/Integer" "value" "I" (.int n)
set_option maxRecDepth 65536 in
set_option maxHeartbeats 40000000 in
theorem rmIntI (l : Launch) (Z : State) (a0 : Array Value) (hw : ∀ d ∈ tables_1, d.before a0 Z = true) (ws : List Jvm.Cond) (wC : Addr) (cC : Cell) (GS : Glob Z wC cC) (a : Addr) (n : Int32) (h0 : Heap) (n0 : Nat) (Z0 : n0 ≤ h0.size) (O0 : Old Z n0 h0) (E_a : Exa Z h0 a "java/lang/Integer") (g_a : n0 ≤ a) (F_value : Fld Z h0 a "java/lang/Integer" "value" "I" (.int (0 : Int32))) :
    MetFree l (⟨"java/lang/Integer", "<init>", "(I)V"⟩ : MethodName) (head1 (Jvm.Cond.code (⟨"java/lang/Integer", "<init>", "(I)V"⟩ : MethodName) jdk_33_method_23_code 2 none :: ws) ({ frames := 2, cells := 0, slots := 0, locals := 24 } : Room)) (fun aa_ UU_ => aa_ = #[(.ref a), (.int n)] ∧ Z.Warmed39 UU_.vm ∧ UU_.heap = h0) (fun _ _ _ _ _ => True) (fun _ UU_ oo_ UV_ => ∃ vv_ LL_, oo_ = .returned vv_ ∧ Q_rmIntI Z wC cC a n h0 n0 vv_ UV_.heap LL_ ∧ FrameEnd UU_ oo_ UV_ LL_ ({ frames := 2, cells := 0, slots := 0, locals := 24 } : Room).cells ({ frames := 2, cells := 0, slots := 0, locals := 24 } : Room).slots) := by
  refine MetFree.of_bodySF (plainFor_of_name own_pn_java_lang_Integer) hisR ?_
  intro p e s m args below meth c s₁ Bd hml0 hP hK
  obtain ⟨rfl, hZ, hh⟩ := hP
  have hx := Bd.exec
  have hby := Bd.bytes
  have hml : c.maxLocals = 2 := hml0
  have hown : s.vm.findClass "java/lang/Integer" = some m.cls := findClass_of_methodNamed Bd.named
  have hnm := (name_of_methodNamed Bd.named Bd.method).1
  have X0 : Stand p l e ({ frames := 2, cells := 0, slots := 0, locals := 24 } : Room) s m #[(.ref a), (.int n)] below meth c s₁ [] 0 0 := Stand.of_body Bd
  have e0 : s₁.heap = h0 := by rw [← hh, Bd.state]; rfl
  have N0 := Fr.nil n0
  have hn0 : Z.heap.size = n0 := O0.1
  have KT0 : Keep h0 h0 [a] := Keep.refl _ _
  refine own_enter (Φ := fun oo_ UV_ => ∃ vv_ LL_, oo_ = .returned vv_ ∧ Q_rmIntI Z wC cC a n h0 n0 vv_ UV_.heap LL_ ∧ FrameEnd s oo_ UV_ LL_ ({ frames := 2, cells := 0, slots := 0, locals := 24 } : Room).cells ({ frames := 2, cells := 0, slots := 0, locals := 24 } : Room).slots) (own_ef_rmIntI m a n) ?_
  refine own_by (T' := s₁) (g' := (mkF m 1 #[.val (.ref a), .val (.int n)] [(.ref a)])) (fun _ kt_ => XS.aloadN X0.here hx rfl (hb hby own_d6_0) rfl rfl kt_) ?_
  obtain ⟨_, _, ⟨T1, L1, k1, n1⟩, -, X1, ⟨Lc1, hQ1, l1, y1, z1⟩, st1⟩ := X0.specialBack hx (y := (⟨"java/lang/Number", "<init>", "()V"⟩ : MethodName)) rfl hown (mvT hZ (hw _ (List.mem_of_getElem? (i := 37) rfl))) (mvT hZ (hw _ (List.mem_of_getElem? (i := 38) rfl))) (mvT hZ (hw _ (List.mem_of_getElem? (i := 42) rfl))) (by decide) (backOf (W := 0) (rmNum l Z a0 hw [] wC cC GS a h0 n0 (by omega) O0 ) hZ (hw _ (List.mem_of_getElem? (i := 42) rfl)) (hw _ (List.mem_of_getElem? (i := 41) rfl)) (by decide) (by decide)) (g := (mkF m 1 #[.val (.ref a), .val (.int n)] [(.ref a)])) rfl (by rw [hml]; rfl) (Steps.refl _) (a := a) (argsL := []) (rest := []) (lenOf own_pd_0 rfl) rfl (by show 2 * 0 + _ ≤ _; exact Nat.le_of_eq rfl) (hb hby own_d6_1) (fun _ _ => ⟨rfl, e0, (by decide : 0 + 0 ≤ _), (by decide : 0 + 0 ≤ _)⟩)
  dsimp only [Pt.U, Pt.locs, Pt.cells, Pt.slots] at X1 l1 y1 z1 st1 hQ1
  subst l1 y1 z1
  obtain ⟨rfl, N1q, e1⟩ := hQ1
  have N2 := Fr.app N0 N1q
  refine own_by (T' := T1) (g' := (mkF m 4 #[.val (.ref a), .val (.int n)] [])) (fun _ kt_ => st1.trans kt_) ?_
  refine own_by (T' := T1) (g' := (mkF m 5 #[.val (.ref a), .val (.int n)] [(.ref a)])) (fun _ kt_ => XS.aloadN X1.here hx rfl (hb hby own_d6_4) rfl rfl kt_) ?_
  refine own_by (T' := T1) (g' := (mkF m 6 #[.val (.ref a), .val (.int n)] [(.int n), (.ref a)])) (fun _ kt_ => XS.iloadN X1.here hx rfl (hb hby own_d6_5) rfl kt_) ?_
  obtain ⟨T3, h3, X3, e3, W3, st3⟩ := putF X1 hx hZ hown (host := "") (Or.inl (hw _ (List.mem_of_getElem? (i := 44) rfl))) Via.refl e1 F_value E_a (Or.inr ⟨(hw _ (List.mem_of_getElem? (i := 45) rfl)), rfl, hnm⟩) (hw _ (List.mem_of_getElem? (i := 32) rfl)) (ty := .int) (by decide) rfl rfl (g := (mkF m 6 #[.val (.ref a), .val (.int n)] [(.int n), (.ref a)])) rfl rfl (hb hby own_d6_6)
  have K4 : Keep h0 h3 [a] := Keep.of_wr W3
  have zzK4 : h0.size ≤ h3.size := K4.1
  have oo5 : Old Z n0 h3 := O0.keep K4 (allS (by omega : n0 ≤ a) all0)
  have kt6 : Keep h0 h3 [a] := KT0.trans K4 (allS (Or.inl (List.mem_of_getElem? (i := 0) rfl)) all0)
  have f7 : Fld Z h3 a "java/lang/Integer" "value" "I" (.int n) := F_value.same W3
  have N8 := Fr.snoc X3 N2 (by omega : n0 ≤ a)
  refine own_by (T' := T3) (g' := (mkF m 9 #[.val (.ref a), .val (.int n)] [])) st3 ?_
  obtain ⟨fs9, hr9, hrun9, hended9, hW9, hsame9⟩ := X3.leave (v := none) (fun _ => rfl)
  refine ⟨_, _, X3.returnOut hx Bd.returns (hb hby own_d6_9) hr9, hrun9, hended9, _, _, rfl, ?_, ⟨_, rfl⟩, hW9, hsame9.mono (by decide) (by decide)⟩
  show Q_rmIntI Z wC cC a n h0 n0 _ T3.heap _
  rw [e3]
  exact ⟨rfl, N8, kt6, f7⟩
theorem own_pd_1 : parseMethodDescriptor "(I)V" = some ⟨[.int], none⟩ := by decide +kernel
theorem own_d5_0 : decode jdk_33_method_22_code 0 = .ok (.iload_n 0, 1) := by decide +kernel
theorem own_d5_1 : decode jdk_33_method_22_code 1 = .ok (.bipush (-128), 2) := by decide +kernel
theorem own_d5_3 : decode jdk_33_method_22_code 3 = .ok (.if_icmp .lt 20, 3) := by decide +kernel
theorem own_d5_6 : decode jdk_33_method_22_code 6 = .ok (.iload_n 0, 1) := by decide +kernel
theorem own_d5_7 : decode jdk_33_method_22_code 7 = .ok (.getstatic 191, 3) := by decide +kernel
theorem own_d5_10 : decode jdk_33_method_22_code 10 = .ok (.if_icmp .gt 13, 3) := by decide +kernel
theorem own_d5_13 : decode jdk_33_method_22_code 13 = .ok (.getstatic 195, 3) := by decide +kernel
theorem own_d5_16 : decode jdk_33_method_22_code 16 = .ok (.iload_n 0, 1) := by decide +kernel
theorem own_d5_17 : decode jdk_33_method_22_code 17 = .ok (.sipush 128, 3) := by decide +kernel
theorem own_d5_20 : decode jdk_33_method_22_code 20 = .ok (.iadd, 1) := by decide +kernel
theorem own_d5_21 : decode jdk_33_method_22_code 21 = .ok (.aaload, 1) := by decide +kernel
theorem own_d5_22 : decode jdk_33_method_22_code 22 = .ok (.areturn, 1) := by decide +kernel
theorem own_d5_23 : decode jdk_33_method_22_code 23 = .ok (.new 1, 3) := by decide +kernel
theorem own_d5_26 : decode jdk_33_method_22_code 26 = .ok (.dup, 1) := by decide +kernel
theorem own_d5_27 : decode jdk_33_method_22_code 27 = .ok (.iload_n 0, 1) := by decide +kernel
theorem own_d5_28 : decode jdk_33_method_22_code 28 = .ok (.invokespecial 199, 3) := by decide +kernel
theorem own_d5_31 : decode jdk_33_method_22_code 31 = .ok (.areturn, 1) := by decide +kernel
theorem own_ef_rmValI (m : MethodId) (x0 : Int32) : entryFrame m #[(.int x0)] 1 = mkF m 0 #[.val (.int x0)] [] := by first | (simp [entryFrame, mkF, argsToLocals, Value.category]; done) | rfl
def Q_rmValI (Z : State) (wC : Addr) (cC : Cell) (n : Int32) (h0 : Heap) (n0 : Nat) (vv_ : Option Value) (hh_ : Heap) (LL_ : List Loc) : Prop := ∃ b : Addr, vv_ = some (.ref b) ∧ Fr n0 LL_ ∧ Keep h0 hh_ [] ∧ Exa Z hh_ b "java/lang/Integer" ∧ Fld Z hh_ b "java/lang/Integer" "value" "I" (.int n)
set_option maxRecDepth 65536 in
set_option maxHeartbeats 40000000 in
theorem rmValI (l : Launch) (Z : State) (a0 : Array Value) (hw : ∀ d ∈ tables_1, d.before a0 Z = true) (ws : List Jvm.Cond) (wC : Addr) (cC : Cell) (GS : Glob Z wC cC) (n : Int32) (h0 : Heap) (n0 : Nat) (Z0 : n0 ≤ h0.size) (O0 : Old Z n0 h0) :
    MetFree l (⟨"java/lang/Integer", "valueOf", "(I)Ljava/lang/Integer;"⟩ : MethodName) (head1 (Jvm.Cond.code (⟨"java/lang/Integer", "valueOf", "(I)Ljava/lang/Integer;"⟩ : MethodName) jdk_33_method_22_code 1 (some (.object "java/lang/Integer")) :: ws) ({ frames := 3, cells := 1, slots := 1, locals := 38 } : Room)) (fun aa_ UU_ => aa_ = #[(.int n)] ∧ Z.Warmed39 UU_.vm ∧ UU_.heap = h0) (fun _ _ _ _ _ => True) (fun _ UU_ oo_ UV_ => ∃ vv_ LL_, oo_ = .returned vv_ ∧ Q_rmValI Z wC cC n h0 n0 vv_ UV_.heap LL_ ∧ FrameEnd UU_ oo_ UV_ LL_ ({ frames := 3, cells := 1, slots := 1, locals := 38 } : Room).cells ({ frames := 3, cells := 1, slots := 1, locals := 38 } : Room).slots) := by
  refine MetFree.of_bodySF (plainFor_of_name own_pn_java_lang_Integer) hisR ?_
  intro p e s m args below meth c s₁ Bd hml0 hP hK
  obtain ⟨rfl, hZ, hh⟩ := hP
  have hx := Bd.exec
  have hby := Bd.bytes
  have hml : c.maxLocals = 1 := hml0
  have hown : s.vm.findClass "java/lang/Integer" = some m.cls := findClass_of_methodNamed Bd.named
  have hnm := (name_of_methodNamed Bd.named Bd.method).1
  have X0 : Stand p l e ({ frames := 3, cells := 1, slots := 1, locals := 38 } : Room) s m #[(.int n)] below meth c s₁ [] 0 0 := Stand.of_body Bd
  have e0 : s₁.heap = h0 := by rw [← hh, Bd.state]; rfl
  have N0 := Fr.nil n0
  have hn0 : Z.heap.size = n0 := O0.1
  have KT0 : Keep h0 h0 [] := Keep.refl _ _
  refine own_enter (Φ := fun oo_ UV_ => ∃ vv_ LL_, oo_ = .returned vv_ ∧ Q_rmValI Z wC cC n h0 n0 vv_ UV_.heap LL_ ∧ FrameEnd s oo_ UV_ LL_ ({ frames := 3, cells := 1, slots := 1, locals := 38 } : Room).cells ({ frames := 3, cells := 1, slots := 1, locals := 38 } : Room).slots) (own_ef_rmValI m n) ?_
  refine own_by (T' := s₁) (g' := (mkF m 1 #[.val (.int n)] [(.int n)])) (fun _ kt_ => XS.iloadN X0.here hx rfl (hb hby own_d5_0) rfl kt_) ?_
  refine own_by (T' := s₁) (g' := (mkF m 3 #[.val (.int n)] [(.int (-128 : Int32)), (.int n)])) (fun _ kt_ => XS.bipush X0.here hx rfl (hb hby own_d5_1) kt_) ?_
  by_cases hc1 : n < (-128 : Int32)
  · refine own_by (T' := s₁) (g' := (mkF m 23 #[.val (.int n)] [])) (fun _ kt_ => XS.icmpYes X0.here hx rfl (pc0 := 3) (pc' := 23) rfl (hb hby own_d5_3) rfl (XT.ii_lt_t hc1) (by decide) (by decide) kt_) ?_
    obtain ⟨T2, h2, X2, e2, E2, A2, D2, -, st2⟩ := newO X0 hx hZ hown (hw _ (List.mem_of_getElem? (i := 31) rfl)) (hw _ (List.mem_of_getElem? (i := 32) rfl)) (hw _ (List.mem_of_getElem? (i := 27) rfl)) e0 (g := (mkF m 23 #[.val (.int n)] [])) rfl (hb hby own_d5_23) (by decide) (by decide)
    obtain ⟨b2, g2⟩ : ∃ z, z = h0.size := ⟨_, rfl⟩
    rw [← g2] at A2 D2 st2
    have K3 : Keep h0 h2 [] := own_kext E2
    have zzK3 : h0.size ≤ h2.size := K3.1
    have oo4 : Old Z n0 h2 := O0.keep K3 all0
    have kt5 : Keep h0 h2 [] := KT0.trans K3 all0
    have lab2 : b2 < h2.size := A2.lt
    have f6 : Fld Z h2 b2 "java/lang/Integer" "value" "I" (.int (0 : Int32)) := D2 (Or.inr (hw _ (List.mem_of_getElem? (i := 45) rfl))) (ty := .int) (by decide)
    refine own_by (T' := T2) (g' := (mkF m 26 #[.val (.int n)] [(.ref b2)])) st2 ?_
    refine own_by (T' := T2) (g' := (mkF m 27 #[.val (.int n)] [(.ref b2), (.ref b2)])) (fun _ kt_ => XS.dup X2.here hx rfl (hb hby own_d5_26) rfl rfl kt_) ?_
    refine own_by (T' := T2) (g' := (mkF m 28 #[.val (.int n)] [(.int n), (.ref b2), (.ref b2)])) (fun _ kt_ => XS.iloadN X2.here hx rfl (hb hby own_d5_27) rfl kt_) ?_
    obtain ⟨_, _, ⟨T7, L7, k7, n7⟩, -, X7, ⟨Lc7, hQ7, l7, y7, z7⟩, st7⟩ := X2.specialBack hx (y := (⟨"java/lang/Integer", "<init>", "(I)V"⟩ : MethodName)) rfl hown (mvT hZ (hw _ (List.mem_of_getElem? (i := 33) rfl))) (mvT hZ (hw _ (List.mem_of_getElem? (i := 34) rfl))) (mvT hZ (hw _ (List.mem_of_getElem? (i := 36) rfl))) (by decide) (backOf (W := 1) (rmIntI l Z a0 hw [] wC cC GS b2 n h2 n0 (by omega) oo4 A2 (by omega) f6) hZ (hw _ (List.mem_of_getElem? (i := 36) rfl)) (hw _ (List.mem_of_getElem? (i := 27) rfl)) (by decide) (by decide)) (g := (mkF m 28 #[.val (.int n)] [(.int n), (.ref b2), (.ref b2)])) rfl (by rw [hml]; rfl) (Steps.refl _) (a := b2) (argsL := [(.int n)]) (rest := [(.ref b2)]) (lenOf own_pd_1 rfl) rfl (by show 2 * 0 + _ ≤ _; exact Nat.le_of_eq rfl) (hb hby own_d5_28) (fun _ _ => ⟨rfl, e2, (by decide : 1 + 0 ≤ _), (by decide : 1 + 0 ≤ _)⟩)
    dsimp only [Pt.U, Pt.locs, Pt.cells, Pt.slots] at X7 l7 y7 z7 st7 hQ7
    subst l7 y7 z7
    obtain ⟨rfl, N7q, K7, p7_0⟩ := hQ7
    have N8 := Fr.app N0 N7q
    have zzK7 : h2.size ≤ T7.heap.size := K7.1
    have oo9 : Old Z n0 T7.heap := oo4.keep K7 (allS (by omega : n0 ≤ b2) all0)
    have kt10 : Keep h0 T7.heap [] := kt5.trans K7 (allS (Or.inr (by omega : h0.size ≤ b2)) all0)
    refine own_by (T' := T7) (g' := (mkF m 31 #[.val (.int n)] [(.ref b2)])) (fun _ kt_ => st7.trans kt_) ?_
    have f11 : Exa Z T7.heap b2 "java/lang/Integer" := (A2.keep K7)
    obtain ⟨fs12, hr12, hrun12, hended12, hW12, hsame12⟩ := X7.leave (v := some (.ref b2)) (fun h => by rw [Bd.returns] at h; cases h)
    refine ⟨_, _, retOut X7 hx (t := (.object "java/lang/Integer")) Bd.returns rfl (Or.inr (Or.inr (Or.inr (Or.inr ⟨rfl, rfl, rfl⟩)))) (hb hby own_d5_31) hr12, hrun12, hended12, _, _, rfl, ?_, ⟨_, rfl⟩, hW12, hsame12.mono (by decide) (by decide)⟩
    show Q_rmValI Z wC cC n h0 n0 _ T7.heap _
    exact ⟨b2, rfl, N8, kt10, f11, p7_0⟩
  · refine own_by (T' := s₁) (g' := (mkF m 6 #[.val (.int n)] [])) (fun _ kt_ => XS.icmpNo X0.here hx rfl (hb hby own_d5_3) rfl (XT.ii_lt_f hc1) kt_) ?_
    refine own_by (T' := s₁) (g' := (mkF m 7 #[.val (.int n)] [(.int n)])) (fun _ kt_ => XS.iloadN X0.here hx rfl (hb hby own_d5_6) rfl kt_) ?_
    have f13 := GS.1.ext O0.2
    obtain ⟨T14, X14, e14, st14⟩ := getS2 X0 hx hZ hown (host := "") (Or.inl (hw _ (List.mem_of_getElem? (i := 29) rfl))) Via.refl e0 f13 (g := (mkF m 7 #[.val (.int n)] [(.int n)])) rfl (hb hby own_d5_7)
    refine own_by (T' := T14) (g' := (mkF m 10 #[.val (.int n)] [(.int (127 : Int32)), (.int n)])) st14 ?_
    by_cases hc15 : (127 : Int32) < n
    · refine own_by (T' := T14) (g' := (mkF m 23 #[.val (.int n)] [])) (fun _ kt_ => XS.icmpYes X14.here hx rfl (pc0 := 10) (pc' := 23) rfl (hb hby own_d5_10) rfl (XT.ii_gt_t hc15) (by decide) (by decide) kt_) ?_
      obtain ⟨T16, h16, X16, e16, E16, A16, D16, -, st16⟩ := newO X14 hx hZ hown (hw _ (List.mem_of_getElem? (i := 31) rfl)) (hw _ (List.mem_of_getElem? (i := 32) rfl)) (hw _ (List.mem_of_getElem? (i := 27) rfl)) e14 (g := (mkF m 23 #[.val (.int n)] [])) rfl (hb hby own_d5_23) (by decide) (by decide)
      obtain ⟨b16, g16⟩ : ∃ z, z = h0.size := ⟨_, rfl⟩
      rw [← g16] at A16 D16 st16
      have K17 : Keep h0 h16 [] := own_kext E16
      have zzK17 : h0.size ≤ h16.size := K17.1
      have oo18 : Old Z n0 h16 := O0.keep K17 all0
      have kt19 : Keep h0 h16 [] := KT0.trans K17 all0
      have lab16 : b16 < h16.size := A16.lt
      have f20 : Fld Z h16 b16 "java/lang/Integer" "value" "I" (.int (0 : Int32)) := D16 (Or.inr (hw _ (List.mem_of_getElem? (i := 45) rfl))) (ty := .int) (by decide)
      refine own_by (T' := T16) (g' := (mkF m 26 #[.val (.int n)] [(.ref b16)])) st16 ?_
      refine own_by (T' := T16) (g' := (mkF m 27 #[.val (.int n)] [(.ref b16), (.ref b16)])) (fun _ kt_ => XS.dup X16.here hx rfl (hb hby own_d5_26) rfl rfl kt_) ?_
      refine own_by (T' := T16) (g' := (mkF m 28 #[.val (.int n)] [(.int n), (.ref b16), (.ref b16)])) (fun _ kt_ => XS.iloadN X16.here hx rfl (hb hby own_d5_27) rfl kt_) ?_
      obtain ⟨_, _, ⟨T21, L21, k21, n21⟩, -, X21, ⟨Lc21, hQ21, l21, y21, z21⟩, st21⟩ := X16.specialBack hx (y := (⟨"java/lang/Integer", "<init>", "(I)V"⟩ : MethodName)) rfl hown (mvT hZ (hw _ (List.mem_of_getElem? (i := 33) rfl))) (mvT hZ (hw _ (List.mem_of_getElem? (i := 34) rfl))) (mvT hZ (hw _ (List.mem_of_getElem? (i := 36) rfl))) (by decide) (backOf (W := 1) (rmIntI l Z a0 hw [] wC cC GS b16 n h16 n0 (by omega) oo18 A16 (by omega) f20) hZ (hw _ (List.mem_of_getElem? (i := 36) rfl)) (hw _ (List.mem_of_getElem? (i := 27) rfl)) (by decide) (by decide)) (g := (mkF m 28 #[.val (.int n)] [(.int n), (.ref b16), (.ref b16)])) rfl (by rw [hml]; rfl) (Steps.refl _) (a := b16) (argsL := [(.int n)]) (rest := [(.ref b16)]) (lenOf own_pd_1 rfl) rfl (by show 2 * 0 + _ ≤ _; exact Nat.le_of_eq rfl) (hb hby own_d5_28) (fun _ _ => ⟨rfl, e16, (by decide : 1 + 0 ≤ _), (by decide : 1 + 0 ≤ _)⟩)
      dsimp only [Pt.U, Pt.locs, Pt.cells, Pt.slots] at X21 l21 y21 z21 st21 hQ21
      subst l21 y21 z21
      obtain ⟨rfl, N21q, K21, p21_0⟩ := hQ21
      have N22 := Fr.app N0 N21q
      have zzK21 : h16.size ≤ T21.heap.size := K21.1
      have oo23 : Old Z n0 T21.heap := oo18.keep K21 (allS (by omega : n0 ≤ b16) all0)
      have kt24 : Keep h0 T21.heap [] := kt19.trans K21 (allS (Or.inr (by omega : h0.size ≤ b16)) all0)
      refine own_by (T' := T21) (g' := (mkF m 31 #[.val (.int n)] [(.ref b16)])) (fun _ kt_ => st21.trans kt_) ?_
      have f25 : Exa Z T21.heap b16 "java/lang/Integer" := (A16.keep K21)
      obtain ⟨fs26, hr26, hrun26, hended26, hW26, hsame26⟩ := X21.leave (v := some (.ref b16)) (fun h => by rw [Bd.returns] at h; cases h)
      refine ⟨_, _, retOut X21 hx (t := (.object "java/lang/Integer")) Bd.returns rfl (Or.inr (Or.inr (Or.inr (Or.inr ⟨rfl, rfl, rfl⟩)))) (hb hby own_d5_31) hr26, hrun26, hended26, _, _, rfl, ?_, ⟨_, rfl⟩, hW26, hsame26.mono (by decide) (by decide)⟩
      show Q_rmValI Z wC cC n h0 n0 _ T21.heap _
      exact ⟨b16, rfl, N22, kt24, f25, p21_0⟩
    · refine own_by (T' := T14) (g' := (mkF m 13 #[.val (.int n)] [])) (fun _ kt_ => XS.icmpNo X14.here hx rfl (hb hby own_d5_10) rfl (XT.ii_gt_f hc15) kt_) ?_
      have f27 := GS.2.1.ext O0.2
      obtain ⟨T28, X28, e28, st28⟩ := getS2 X14 hx hZ hown (host := "") (Or.inl (hw _ (List.mem_of_getElem? (i := 49) rfl))) Via.refl e14 f27 (g := (mkF m 13 #[.val (.int n)] [])) rfl (hb hby own_d5_13)
      refine own_by (T' := T28) (g' := (mkF m 16 #[.val (.int n)] [(.ref wC)])) st28 ?_
      refine own_by (T' := T28) (g' := (mkF m 17 #[.val (.int n)] [(.int n), (.ref wC)])) (fun _ kt_ => XS.iloadN X28.here hx rfl (hb hby own_d5_16) rfl kt_) ?_
      refine own_by (T' := T28) (g' := (mkF m 20 #[.val (.int n)] [(.int (128 : Int32)), (.int n), (.ref wC)])) (fun _ kt_ => XS.sipush X28.here hx rfl (hb hby own_d5_17) kt_) ?_
      refine own_by (T' := T28) (g' := (mkF m 21 #[.val (.int n)] [(.int (n + (128 : Int32))), (.ref wC)])) (fun _ kt_ => XS.iadd X28.here hx rfl (hb hby own_d5_20) rfl kt_) ?_
      obtain ⟨Ar30, S30, M30⟩ := GS.2.2.ext O0.2
      have hin30 : ¬ ((n + (128 : Int32)) < 0 ∨ cC.slots.size ≤ ((n + (128 : Int32))).toNatClampNeg) := inb_of S30 (own_bxin n hc1 hc15)
      obtain ⟨bx30, hat30, Ex30, Fv30⟩ := GS.2.2.2.2.2 (n + (128 : Int32)) hin30
      have Fw30 : Fld Z Z.heap bx30 "java/lang/Integer" "value" "I" (.int ((n + (128 : Int32)) - (128 : Int32))) := Fv30
      refine own_by (T' := T28) (g' := (mkF m 22 #[.val (.int n)] [(.ref bx30)])) (fun _ kt_ => X28.aaload hx (j := (n + (128 : Int32))) (v := (.ref bx30)) (by rw [e28]; exact Ar30.1) (State.isArrayOf_alike hZ.alike Ar30.2.1) rfl Ar30.2.2 hin30 hat30 (g := (mkF m 21 #[.val (.int n)] [(.int (n + (128 : Int32))), (.ref wC)])) rfl rfl (hb hby own_d5_21) _ kt_) ?_
      have f31 := Ex30.ext O0.2
      have f32 := Fw30.ext O0.2
      have hv33 : ((.int ((n + (128 : Int32)) - (128 : Int32))) : Value) = (.int n) := congrArg Value.int (Int32.add_sub_cancel _ _)
      obtain ⟨fs34, hr34, hrun34, hended34, hW34, hsame34⟩ := X28.leave (v := some (.ref bx30)) (fun h => by rw [Bd.returns] at h; cases h)
      refine ⟨_, _, retOut X28 hx (t := (.object "java/lang/Integer")) Bd.returns rfl (Or.inr (Or.inr (Or.inr (Or.inr ⟨rfl, rfl, rfl⟩)))) (hb hby own_d5_22) hr34, hrun34, hended34, _, _, rfl, ?_, ⟨_, rfl⟩, hW34, hsame34.mono (by decide) (by decide)⟩
      show Q_rmValI Z wC cC n h0 n0 _ T28.heap _
      rw [e28]
      exact ⟨bx30, rfl, N0, KT0, f31, (hv33 ▸ f32)⟩
theorem own_d1_0 : decode method_2_code 0 = .ok (.iload_n 0, 1) := by decide +kernel
theorem own_d1_1 : decode method_2_code 1 = .ok (.ldc 7, 2) := by decide +kernel
theorem own_d1_3 : decode method_2_code 3 = .ok (.iand, 1) := by decide +kernel
theorem own_d1_4 : decode method_2_code 4 = .ok (.istore_n 1, 1) := by decide +kernel
theorem own_d1_5 : decode method_2_code 5 = .ok (.iload_n 1, 1) := by decide +kernel
theorem own_d1_6 : decode method_2_code 6 = .ok (.ifCond .ne 5, 3) := by decide +kernel
theorem own_d1_9 : decode method_2_code 9 = .ok (.iconst 1, 1) := by decide +kernel
theorem own_d1_10 : decode method_2_code 10 = .ok (.ireturn, 1) := by decide +kernel
theorem own_d1_11 : decode method_2_code 11 = .ok (.iload_n 1, 1) := by decide +kernel
theorem own_d1_12 : decode method_2_code 12 = .ok (.ireturn, 1) := by decide +kernel
theorem own_pn_com_example_even_commute_evencommute_comparison_LinkEndsEqualsPinLaw : plainName "com/example/even_commute/evencommute/comparison/LinkEndsEqualsPinLaw" = true := by first | (simp [plainName, overriddenIn]; done) | decide +kernel
theorem own_ef_rmPos (m : MethodId) (x0 : Int32) : entryFrame m #[(.int x0)] 2 = mkF m 0 #[.val (.int x0), .unset] [] := by first | (simp [entryFrame, mkF, argsToLocals, Value.category]; done) | rfl
def Q_rmPos (Z : State) (wC : Addr) (cC : Cell) (n : Int32) (h0 : Heap) (n0 : Nat) (vv_ : Option Value) (hh_ : Heap) (LL_ : List Loc) : Prop := vv_ = some (.int (posF n)) ∧ Fr n0 LL_ ∧ hh_ = h0
set_option maxRecDepth 65536 in
set_option maxHeartbeats 40000000 in
theorem rmPos (l : Launch) (Z : State) (a0 : Array Value) (hw : ∀ d ∈ tables_1, d.before a0 Z = true) (ws : List Jvm.Cond) (wC : Addr) (cC : Cell) (GS : Glob Z wC cC) (n : Int32) (h0 : Heap) (n0 : Nat) (Z0 : n0 ≤ h0.size) (O0 : Old Z n0 h0) :
    MetFree l (⟨"com/example/even_commute/evencommute/comparison/LinkEndsEqualsPinLaw", "pos", "(I)I"⟩ : MethodName) (head1 (Jvm.Cond.code (⟨"com/example/even_commute/evencommute/comparison/LinkEndsEqualsPinLaw", "pos", "(I)I"⟩ : MethodName) method_2_code 2 (some .int) :: ws) ({ frames := 0, cells := 0, slots := 0, locals := 0 } : Room)) (fun aa_ UU_ => aa_ = #[(.int n)] ∧ Z.Warmed39 UU_.vm ∧ UU_.heap = h0) (fun _ _ _ _ _ => True) (fun _ UU_ oo_ UV_ => ∃ vv_ LL_, oo_ = .returned vv_ ∧ Q_rmPos Z wC cC n h0 n0 vv_ UV_.heap LL_ ∧ FrameEnd UU_ oo_ UV_ LL_ ({ frames := 0, cells := 0, slots := 0, locals := 0 } : Room).cells ({ frames := 0, cells := 0, slots := 0, locals := 0 } : Room).slots) := by
  refine MetFree.of_bodySF (plainFor_of_name own_pn_com_example_even_commute_evencommute_comparison_LinkEndsEqualsPinLaw) hisR ?_
  intro p e s m args below meth c s₁ Bd hml0 hP hK
  obtain ⟨rfl, hZ, hh⟩ := hP
  have hx := Bd.exec
  have hby := Bd.bytes
  have hml : c.maxLocals = 2 := hml0
  have hown : s.vm.findClass "com/example/even_commute/evencommute/comparison/LinkEndsEqualsPinLaw" = some m.cls := findClass_of_methodNamed Bd.named
  have hnm := (name_of_methodNamed Bd.named Bd.method).1
  have X0 : Stand p l e ({ frames := 0, cells := 0, slots := 0, locals := 0 } : Room) s m #[(.int n)] below meth c s₁ [] 0 0 := Stand.of_body Bd
  have e0 : s₁.heap = h0 := by rw [← hh, Bd.state]; rfl
  have N0 := Fr.nil n0
  have hn0 : Z.heap.size = n0 := O0.1
  have KT0 : Keep h0 h0 [] := Keep.refl _ _
  refine own_enter (Φ := fun oo_ UV_ => ∃ vv_ LL_, oo_ = .returned vv_ ∧ Q_rmPos Z wC cC n h0 n0 vv_ UV_.heap LL_ ∧ FrameEnd s oo_ UV_ LL_ ({ frames := 0, cells := 0, slots := 0, locals := 0 } : Room).cells ({ frames := 0, cells := 0, slots := 0, locals := 0 } : Room).slots) (own_ef_rmPos m n) ?_
  refine own_by (T' := s₁) (g' := (mkF m 1 #[.val (.int n), .unset] [(.int n)])) (fun _ kt_ => XS.iloadN X0.here hx rfl (hb hby own_d1_0) rfl kt_) ?_
  refine own_by (T' := s₁) (g' := (mkF m 3 #[.val (.int n), .unset] [(.int (2147483647 : Int32)), (.int n)])) (fun _ kt_ => X0.ldcInt hx hown (mvT hZ (hw _ (List.mem_of_getElem? (i := 4) rfl))) (g := (mkF m 1 #[.val (.int n), .unset] [(.int n)])) rfl (hb hby own_d1_1) _ kt_) ?_
  refine own_by (T' := s₁) (g' := (mkF m 4 #[.val (.int n), .unset] [(.int (n &&& (2147483647 : Int32)))])) (fun _ kt_ => XS.iand X0.here hx rfl (hb hby own_d1_3) rfl kt_) ?_
  refine own_by (T' := s₁) (g' := (mkF m 5 #[.val (.int n), .val (.int (n &&& (2147483647 : Int32)))] [])) (fun _ kt_ => XS.istoreN X0.here hx rfl (hb hby own_d1_4) rfl (l' := #[.val (.int n), .val (.int (n &&& (2147483647 : Int32)))]) rfl kt_) ?_
  refine own_by (T' := s₁) (g' := (mkF m 6 #[.val (.int n), .val (.int (n &&& (2147483647 : Int32)))] [(.int (n &&& (2147483647 : Int32)))])) (fun _ kt_ => XS.iloadN X0.here hx rfl (hb hby own_d1_5) rfl kt_) ?_
  by_cases hc2 : (n &&& (2147483647 : Int32)) = (0 : Int32)
  · refine own_by (T' := s₁) (g' := (mkF m 9 #[.val (.int n), .val (.int (n &&& (2147483647 : Int32)))] [])) (fun _ kt_ => XS.ifNo X0.here hx rfl (hb hby own_d1_6) rfl (XT.i0_ne_f hc2) kt_) ?_
    refine own_by (T' := s₁) (g' := (mkF m 10 #[.val (.int n), .val (.int (n &&& (2147483647 : Int32)))] [(.int (1 : Int32))])) (fun _ kt_ => XS.iconst X0.here hx rfl (hb hby own_d1_9) kt_) ?_
    have hr3 : (1 : Int32) = (posF n) := by simp [posF, hc2]
    obtain ⟨fs4, hr4, hrun4, hended4, hW4, hsame4⟩ := X0.leave (v := some (.int (1 : Int32))) (fun h => by rw [Bd.returns] at h; cases h)
    refine ⟨_, _, retOut X0 hx (t := .int) Bd.returns rfl (Or.inl ⟨rfl, Or.inl rfl, _, rfl⟩) (hb hby own_d1_10) hr4, hrun4, hended4, _, _, rfl, ?_, ⟨_, rfl⟩, hW4, hsame4.mono (by decide) (by decide)⟩
    show Q_rmPos Z wC cC n h0 n0 _ s₁.heap _
    exact ⟨(congrArg (fun z => some (Value.int z)) hr3), N0, e0⟩
  · refine own_by (T' := s₁) (g' := (mkF m 11 #[.val (.int n), .val (.int (n &&& (2147483647 : Int32)))] [])) (fun _ kt_ => XS.ifYes X0.here hx rfl (pc0 := 6) (pc' := 11) rfl (hb hby own_d1_6) rfl (XT.i0_ne_t hc2) (by decide) (by decide) kt_) ?_
    refine own_by (T' := s₁) (g' := (mkF m 12 #[.val (.int n), .val (.int (n &&& (2147483647 : Int32)))] [(.int (n &&& (2147483647 : Int32)))])) (fun _ kt_ => XS.iloadN X0.here hx rfl (hb hby own_d1_11) rfl kt_) ?_
    have hr5 : (n &&& (2147483647 : Int32)) = (posF n) := by simp [posF, hc2]
    obtain ⟨fs6, hr6, hrun6, hended6, hW6, hsame6⟩ := X0.leave (v := some (.int (n &&& (2147483647 : Int32)))) (fun h => by rw [Bd.returns] at h; cases h)
    refine ⟨_, _, retOut X0 hx (t := .int) Bd.returns rfl (Or.inl ⟨rfl, Or.inl rfl, _, rfl⟩) (hb hby own_d1_12) hr6, hrun6, hended6, _, _, rfl, ?_, ⟨_, rfl⟩, hW6, hsame6.mono (by decide) (by decide)⟩
    show Q_rmPos Z wC cC n h0 n0 _ s₁.heap _
    exact ⟨(congrArg (fun z => some (Value.int z)) hr5), N0, e0⟩
theorem own_d2_0 : decode prog_19_method_1_code 0 = .ok (.aload_n 0, 1) := by decide +kernel
theorem own_d2_1 : decode prog_19_method_1_code 1 = .ok (.invokespecial 1, 3) := by decide +kernel
theorem own_d2_4 : decode prog_19_method_1_code 4 = .ok (.iload_n 1, 1) := by decide +kernel
theorem own_d2_5 : decode prog_19_method_1_code 5 = .ok (.iconst 1, 1) := by decide +kernel
theorem own_d2_6 : decode prog_19_method_1_code 6 = .ok (.if_icmp .lt 8, 3) := by decide +kernel
theorem own_d2_9 : decode prog_19_method_1_code 9 = .ok (.iload_n 2, 1) := by decide +kernel
theorem own_d2_10 : decode prog_19_method_1_code 10 = .ok (.iconst 1, 1) := by decide +kernel
theorem own_d2_11 : decode prog_19_method_1_code 11 = .ok (.if_icmp .ge 34, 3) := by decide +kernel
theorem own_d2_45 : decode prog_19_method_1_code 45 = .ok (.aload_n 0, 1) := by decide +kernel
theorem own_d2_46 : decode prog_19_method_1_code 46 = .ok (.iload_n 1, 1) := by decide +kernel
theorem own_d2_47 : decode prog_19_method_1_code 47 = .ok (.putfield 26, 3) := by decide +kernel
theorem own_d2_50 : decode prog_19_method_1_code 50 = .ok (.aload_n 0, 1) := by decide +kernel
theorem own_d2_51 : decode prog_19_method_1_code 51 = .ok (.iload_n 2, 1) := by decide +kernel
theorem own_d2_52 : decode prog_19_method_1_code 52 = .ok (.putfield 32, 3) := by decide +kernel
theorem own_d2_55 : decode prog_19_method_1_code 55 = .ok (.return_, 1) := by decide +kernel
theorem own_pn_com_example_even_commute_evencommute_comparison_LinkEnds : plainName "com/example/even_commute/evencommute/comparison/LinkEnds" = true := by first | (simp [plainName, overriddenIn]; done) | decide +kernel
theorem own_ef_rmIni (m : MethodId) (x0 : Addr) (x1 : Int32) (x2 : Int32) : entryFrame m #[(.ref x0), (.int x1), (.int x2)] 3 = mkF m 0 #[.val (.ref x0), .val (.int x1), .val (.int x2)] [] := by first | (simp [entryFrame, mkF, argsToLocals, Value.category]; done) | rfl
def Q_rmIni (Z : State) (wC : Addr) (cC : Cell) (a : Addr) (f : Int32) (t : Int32) (h0 : Heap) (n0 : Nat) (vv_ : Option Value) (hh_ : Heap) (LL_ : List Loc) : Prop := vv_ = none ∧ Fr n0 LL_ ∧ Keep h0 hh_ [a] ∧ Fld Z hh_ a "com/example/even_commute/evencommute/comparison/LinkEnds" "fromNode" "I" (.int f) ∧ Fld Z hh_ a "com/example/even_commute/evencommute/comparison/LinkEnds" "toNode" "I" (.int t)
set_option maxRecDepth 65536 in
set_option maxHeartbeats 40000000 in
theorem rmIni (l : Launch) (Z : State) (a0 : Array Value) (hw : ∀ d ∈ tables_1, d.before a0 Z = true) (ws : List Jvm.Cond) (wC : Addr) (cC : Cell) (GS : Glob Z wC cC) (a : Addr) (f : Int32) (t : Int32) (h0 : Heap) (n0 : Nat) (Z0 : n0 ≤ h0.size) (O0 : Old Z n0 h0) (hf : ¬ f < (1 : Int32)) (ht : ¬ t < (1 : Int32)) (E_a : Exa Z h0 a "com/example/even_commute/evencommute/comparison/LinkEnds") (g_a : n0 ≤ a) (F_fromNode : Fld Z h0 a "com/example/even_commute/evencommute/comparison/LinkEnds" "fromNode" "I" (.int (0 : Int32))) (F_toNode : Fld Z h0 a "com/example/even_commute/evencommute/comparison/LinkEnds" "toNode" "I" (.int (0 : Int32))) :
    MetFree l (⟨"com/example/even_commute/evencommute/comparison/LinkEnds", "<init>", "(II)V"⟩ : MethodName) (head1 (Jvm.Cond.code (⟨"com/example/even_commute/evencommute/comparison/LinkEnds", "<init>", "(II)V"⟩ : MethodName) prog_19_method_1_code 3 none :: ws) ({ frames := 1, cells := 0, slots := 0, locals := 12 } : Room)) (fun aa_ UU_ => aa_ = #[(.ref a), (.int f), (.int t)] ∧ Z.Warmed39 UU_.vm ∧ UU_.heap = h0) (fun _ _ _ _ _ => True) (fun _ UU_ oo_ UV_ => ∃ vv_ LL_, oo_ = .returned vv_ ∧ Q_rmIni Z wC cC a f t h0 n0 vv_ UV_.heap LL_ ∧ FrameEnd UU_ oo_ UV_ LL_ ({ frames := 1, cells := 0, slots := 0, locals := 12 } : Room).cells ({ frames := 1, cells := 0, slots := 0, locals := 12 } : Room).slots) := by
  refine MetFree.of_bodySF (plainFor_of_name own_pn_com_example_even_commute_evencommute_comparison_LinkEnds) hisR ?_
  intro p e s m args below meth c s₁ Bd hml0 hP hK
  obtain ⟨rfl, hZ, hh⟩ := hP
  have hx := Bd.exec
  have hby := Bd.bytes
  have hml : c.maxLocals = 3 := hml0
  have hown : s.vm.findClass "com/example/even_commute/evencommute/comparison/LinkEnds" = some m.cls := findClass_of_methodNamed Bd.named
  have hnm := (name_of_methodNamed Bd.named Bd.method).1
  have X0 : Stand p l e ({ frames := 1, cells := 0, slots := 0, locals := 12 } : Room) s m #[(.ref a), (.int f), (.int t)] below meth c s₁ [] 0 0 := Stand.of_body Bd
  have e0 : s₁.heap = h0 := by rw [← hh, Bd.state]; rfl
  have N0 := Fr.nil n0
  have hn0 : Z.heap.size = n0 := O0.1
  have KT0 : Keep h0 h0 [a] := Keep.refl _ _
  refine own_enter (Φ := fun oo_ UV_ => ∃ vv_ LL_, oo_ = .returned vv_ ∧ Q_rmIni Z wC cC a f t h0 n0 vv_ UV_.heap LL_ ∧ FrameEnd s oo_ UV_ LL_ ({ frames := 1, cells := 0, slots := 0, locals := 12 } : Room).cells ({ frames := 1, cells := 0, slots := 0, locals := 12 } : Room).slots) (own_ef_rmIni m a f t) ?_
  refine own_by (T' := s₁) (g' := (mkF m 1 #[.val (.ref a), .val (.int f), .val (.int t)] [(.ref a)])) (fun _ kt_ => XS.aloadN X0.here hx rfl (hb hby own_d2_0) rfl rfl kt_) ?_
  obtain ⟨T1, X1, e1, st1⟩ := initO X0 hx hZ hown (hw _ (List.mem_of_getElem? (i := 11) rfl)) (hw _ (List.mem_of_getElem? (i := 12) rfl)) (hw _ (List.mem_of_getElem? (i := 13) rfl)) e0 (g := (mkF m 1 #[.val (.ref a), .val (.int f), .val (.int t)] [(.ref a)])) rfl (by rw [hml]; rfl) rfl (hb hby own_d2_1) (by decide) (W := 0) (by show 2 * 0 + _ ≤ _; exact Nat.le_of_eq rfl) (by decide)
  refine own_by (T' := T1) (g' := (mkF m 4 #[.val (.ref a), .val (.int f), .val (.int t)] [])) st1 ?_
  refine own_by (T' := T1) (g' := (mkF m 5 #[.val (.ref a), .val (.int f), .val (.int t)] [(.int f)])) (fun _ kt_ => XS.iloadN X1.here hx rfl (hb hby own_d2_4) rfl kt_) ?_
  refine own_by (T' := T1) (g' := (mkF m 6 #[.val (.ref a), .val (.int f), .val (.int t)] [(.int (1 : Int32)), (.int f)])) (fun _ kt_ => XS.iconst X1.here hx rfl (hb hby own_d2_5) kt_) ?_
  refine own_by (T' := T1) (g' := (mkF m 9 #[.val (.ref a), .val (.int f), .val (.int t)] [])) (fun _ kt_ => XS.icmpNo X1.here hx rfl (hb hby own_d2_6) rfl (XT.ii_lt_f hf) kt_) ?_
  refine own_by (T' := T1) (g' := (mkF m 10 #[.val (.ref a), .val (.int f), .val (.int t)] [(.int t)])) (fun _ kt_ => XS.iloadN X1.here hx rfl (hb hby own_d2_9) rfl kt_) ?_
  refine own_by (T' := T1) (g' := (mkF m 11 #[.val (.ref a), .val (.int f), .val (.int t)] [(.int (1 : Int32)), (.int t)])) (fun _ kt_ => XS.iconst X1.here hx rfl (hb hby own_d2_10) kt_) ?_
  refine own_by (T' := T1) (g' := (mkF m 45 #[.val (.ref a), .val (.int f), .val (.int t)] [])) (fun _ kt_ => XS.icmpYes X1.here hx rfl (pc0 := 11) (pc' := 45) rfl (hb hby own_d2_11) rfl (XT.ii_ge_t ht) (by decide) (by decide) kt_) ?_
  refine own_by (T' := T1) (g' := (mkF m 46 #[.val (.ref a), .val (.int f), .val (.int t)] [(.ref a)])) (fun _ kt_ => XS.aloadN X1.here hx rfl (hb hby own_d2_45) rfl rfl kt_) ?_
  refine own_by (T' := T1) (g' := (mkF m 47 #[.val (.ref a), .val (.int f), .val (.int t)] [(.int f), (.ref a)])) (fun _ kt_ => XS.iloadN X1.here hx rfl (hb hby own_d2_46) rfl kt_) ?_
  obtain ⟨T2, h2, X2, e2, W2, st2⟩ := putF X1 hx hZ hown (host := "") (Or.inl (hw _ (List.mem_of_getElem? (i := 14) rfl))) Via.refl e1 F_fromNode E_a (Or.inr ⟨(hw _ (List.mem_of_getElem? (i := 15) rfl)), rfl, hnm⟩) (hw _ (List.mem_of_getElem? (i := 6) rfl)) (ty := .int) (by decide) rfl rfl (g := (mkF m 47 #[.val (.ref a), .val (.int f), .val (.int t)] [(.int f), (.ref a)])) rfl rfl (hb hby own_d2_47)
  have K3 : Keep h0 h2 [a] := Keep.of_wr W2
  have zzK3 : h0.size ≤ h2.size := K3.1
  have oo4 : Old Z n0 h2 := O0.keep K3 (allS (by omega : n0 ≤ a) all0)
  have kt5 : Keep h0 h2 [a] := KT0.trans K3 (allS (Or.inl (List.mem_of_getElem? (i := 0) rfl)) all0)
  have f6 : Fld Z h2 a "com/example/even_commute/evencommute/comparison/LinkEnds" "fromNode" "I" (.int f) := F_fromNode.same W2
  have f7 : Fld Z h2 a "com/example/even_commute/evencommute/comparison/LinkEnds" "toNode" "I" (.int (0 : Int32)) := F_toNode.other W2 (Or.inr (slot_ne (Or.inr (hw _ (List.mem_of_getElem? (i := 17) rfl))) (Or.inr (hw _ (List.mem_of_getElem? (i := 15) rfl))) (by decide) (t := .int) (t' := .int) (by decide) (by decide)))
  have N8 := Fr.snoc X2 N0 (by omega : n0 ≤ a)
  refine own_by (T' := T2) (g' := (mkF m 50 #[.val (.ref a), .val (.int f), .val (.int t)] [])) st2 ?_
  refine own_by (T' := T2) (g' := (mkF m 51 #[.val (.ref a), .val (.int f), .val (.int t)] [(.ref a)])) (fun _ kt_ => XS.aloadN X2.here hx rfl (hb hby own_d2_50) rfl rfl kt_) ?_
  refine own_by (T' := T2) (g' := (mkF m 52 #[.val (.ref a), .val (.int f), .val (.int t)] [(.int t), (.ref a)])) (fun _ kt_ => XS.iloadN X2.here hx rfl (hb hby own_d2_51) rfl kt_) ?_
  have f9 : Exa Z h2 a "com/example/even_commute/evencommute/comparison/LinkEnds" := (E_a.keep K3)
  obtain ⟨T10, h10, X10, e10, W10, st10⟩ := putF X2 hx hZ hown (host := "") (Or.inl (hw _ (List.mem_of_getElem? (i := 16) rfl))) Via.refl e2 f7 f9 (Or.inr ⟨(hw _ (List.mem_of_getElem? (i := 17) rfl)), rfl, hnm⟩) (hw _ (List.mem_of_getElem? (i := 6) rfl)) (ty := .int) (by decide) rfl rfl (g := (mkF m 52 #[.val (.ref a), .val (.int f), .val (.int t)] [(.int t), (.ref a)])) rfl rfl (hb hby own_d2_52)
  have K11 : Keep h2 h10 [a] := Keep.of_wr W10
  have zzK11 : h2.size ≤ h10.size := K11.1
  have oo12 : Old Z n0 h10 := oo4.keep K11 (allS (by omega : n0 ≤ a) all0)
  have kt13 : Keep h0 h10 [a] := kt5.trans K11 (allS (Or.inl (List.mem_of_getElem? (i := 0) rfl)) all0)
  have f14 : Fld Z h10 a "com/example/even_commute/evencommute/comparison/LinkEnds" "fromNode" "I" (.int f) := f6.other W10 (Or.inr (slot_ne (Or.inr (hw _ (List.mem_of_getElem? (i := 15) rfl))) (Or.inr (hw _ (List.mem_of_getElem? (i := 17) rfl))) (by decide) (t := .int) (t' := .int) (by decide) (by decide)))
  have f15 : Fld Z h10 a "com/example/even_commute/evencommute/comparison/LinkEnds" "toNode" "I" (.int t) := f7.same W10
  have N16 := Fr.snoc X10 N8 (by omega : n0 ≤ a)
  refine own_by (T' := T10) (g' := (mkF m 55 #[.val (.ref a), .val (.int f), .val (.int t)] [])) st10 ?_
  obtain ⟨fs17, hr17, hrun17, hended17, hW17, hsame17⟩ := X10.leave (v := none) (fun _ => rfl)
  refine ⟨_, _, X10.returnOut hx Bd.returns (hb hby own_d2_55) hr17, hrun17, hended17, _, _, rfl, ?_, ⟨_, rfl⟩, hW17, hsame17.mono (by decide) (by decide)⟩
  show Q_rmIni Z wC cC a f t h0 n0 _ T10.heap _
  rw [e10]
  exact ⟨rfl, N16, kt13, f14, f15⟩
theorem own_d4_0 : decode prog_19_method_4_code 0 = .ok (.aload_n 1, 1) := by decide +kernel
theorem own_d4_1 : decode prog_19_method_4_code 1 = .ok (.instanceof 27, 3) := by decide +kernel
theorem own_d4_4 : decode prog_19_method_4_code 4 = .ok (.ifCond .ne 5, 3) := by decide +kernel
theorem own_d4_7 : decode prog_19_method_4_code 7 = .ok (.iconst 0, 1) := by decide +kernel
theorem own_d4_8 : decode prog_19_method_4_code 8 = .ok (.ireturn, 1) := by decide +kernel
theorem own_ef_rmEqN (m : MethodId) (x0 : Addr) : entryFrame m #[(.ref x0), .null] 3 = mkF m 0 #[.val (.ref x0), .val .null, .unset] [] := by first | (simp [entryFrame, mkF, argsToLocals, Value.category]; done) | rfl
def Q_rmEqN (Z : State) (wC : Addr) (cC : Cell) (a : Addr) (h0 : Heap) (n0 : Nat) (vv_ : Option Value) (hh_ : Heap) (LL_ : List Loc) : Prop := vv_ = some (.int (0 : Int32)) ∧ Fr n0 LL_ ∧ hh_ = h0
set_option maxRecDepth 65536 in
set_option maxHeartbeats 40000000 in
theorem rmEqN (l : Launch) (Z : State) (a0 : Array Value) (hw : ∀ d ∈ tables_1, d.before a0 Z = true) (ws : List Jvm.Cond) (wC : Addr) (cC : Cell) (GS : Glob Z wC cC) (a : Addr) (h0 : Heap) (n0 : Nat) (Z0 : n0 ≤ h0.size) (O0 : Old Z n0 h0) :
    MetFree l (⟨"com/example/even_commute/evencommute/comparison/LinkEnds", "equals", "(Ljava/lang/Object;)Z"⟩ : MethodName) (head1 (Jvm.Cond.code (⟨"com/example/even_commute/evencommute/comparison/LinkEnds", "equals", "(Ljava/lang/Object;)Z"⟩ : MethodName) prog_19_method_4_code 3 (some .boolean) :: ws) ({ frames := 0, cells := 0, slots := 0, locals := 0 } : Room)) (fun aa_ UU_ => aa_ = #[(.ref a), .null] ∧ Z.Warmed39 UU_.vm ∧ UU_.heap = h0) (fun _ _ _ _ _ => True) (fun _ UU_ oo_ UV_ => ∃ vv_ LL_, oo_ = .returned vv_ ∧ Q_rmEqN Z wC cC a h0 n0 vv_ UV_.heap LL_ ∧ FrameEnd UU_ oo_ UV_ LL_ ({ frames := 0, cells := 0, slots := 0, locals := 0 } : Room).cells ({ frames := 0, cells := 0, slots := 0, locals := 0 } : Room).slots) := by
  refine MetFree.of_bodySF (plainFor_of_name own_pn_com_example_even_commute_evencommute_comparison_LinkEnds) hisR ?_
  intro p e s m args below meth c s₁ Bd hml0 hP hK
  obtain ⟨rfl, hZ, hh⟩ := hP
  have hx := Bd.exec
  have hby := Bd.bytes
  have hml : c.maxLocals = 3 := hml0
  have hown : s.vm.findClass "com/example/even_commute/evencommute/comparison/LinkEnds" = some m.cls := findClass_of_methodNamed Bd.named
  have hnm := (name_of_methodNamed Bd.named Bd.method).1
  have X0 : Stand p l e ({ frames := 0, cells := 0, slots := 0, locals := 0 } : Room) s m #[(.ref a), .null] below meth c s₁ [] 0 0 := Stand.of_body Bd
  have e0 : s₁.heap = h0 := by rw [← hh, Bd.state]; rfl
  have N0 := Fr.nil n0
  have hn0 : Z.heap.size = n0 := O0.1
  have KT0 : Keep h0 h0 [] := Keep.refl _ _
  refine own_enter (Φ := fun oo_ UV_ => ∃ vv_ LL_, oo_ = .returned vv_ ∧ Q_rmEqN Z wC cC a h0 n0 vv_ UV_.heap LL_ ∧ FrameEnd s oo_ UV_ LL_ ({ frames := 0, cells := 0, slots := 0, locals := 0 } : Room).cells ({ frames := 0, cells := 0, slots := 0, locals := 0 } : Room).slots) (own_ef_rmEqN m a) ?_
  refine own_by (T' := s₁) (g' := (mkF m 1 #[.val (.ref a), .val .null, .unset] [.null])) (fun _ kt_ => XS.aloadN X0.here hx rfl (hb hby own_d4_0) rfl rfl kt_) ?_
  refine own_by (T' := s₁) (g' := (mkF m 4 #[.val (.ref a), .val .null, .unset] [(.int (0 : Int32))])) (fun _ kt_ => X0.instanceofNull hx (g := (mkF m 1 #[.val (.ref a), .val .null, .unset] [.null])) rfl rfl (hb hby own_d4_1) _ kt_) ?_
  refine own_by (T' := s₁) (g' := (mkF m 7 #[.val (.ref a), .val .null, .unset] [])) (fun _ kt_ => XS.ifNo X0.here hx rfl (hb hby own_d4_4) rfl (XT.i0_ne_f (by decide)) kt_) ?_
  refine own_by (T' := s₁) (g' := (mkF m 8 #[.val (.ref a), .val .null, .unset] [(.int (0 : Int32))])) (fun _ kt_ => XS.iconst X0.here hx rfl (hb hby own_d4_7) kt_) ?_
  have hn1 : nar .boolean (0 : Int32) = (0 : Int32) := rfl
  obtain ⟨fs2, hr2, hrun2, hended2, hW2, hsame2⟩ := X0.leave (v := some (.int (nar .boolean (0 : Int32)))) (fun h => by rw [Bd.returns] at h; cases h)
  refine ⟨_, _, retN X0 hx (t := .boolean) Bd.returns (by simp) (hb hby own_d4_8) hr2, hrun2, hended2, _, _, rfl, ?_, ⟨_, rfl⟩, hW2, hsame2.mono (by decide) (by decide)⟩
  show Q_rmEqN Z wC cC a h0 n0 _ s₁.heap _
  exact ⟨(congrArg (fun z => some (Value.int z)) hn1), N0, e0⟩
theorem own_ef_rmEqI (m : MethodId) (x0 : Addr) (x1 : Addr) : entryFrame m #[(.ref x0), (.ref x1)] 3 = mkF m 0 #[.val (.ref x0), .val (.ref x1), .unset] [] := by first | (simp [entryFrame, mkF, argsToLocals, Value.category]; done) | rfl
def Q_rmEqI (Z : State) (wC : Addr) (cC : Cell) (a : Addr) (ob : Addr) (h0 : Heap) (n0 : Nat) (vv_ : Option Value) (hh_ : Heap) (LL_ : List Loc) : Prop := vv_ = some (.int (0 : Int32)) ∧ Fr n0 LL_ ∧ hh_ = h0
set_option maxRecDepth 65536 in
set_option maxHeartbeats 40000000 in
theorem rmEqI (l : Launch) (Z : State) (a0 : Array Value) (hw : ∀ d ∈ tables_1, d.before a0 Z = true) (ws : List Jvm.Cond) (wC : Addr) (cC : Cell) (GS : Glob Z wC cC) (a : Addr) (ob : Addr) (h0 : Heap) (n0 : Nat) (Z0 : n0 ≤ h0.size) (O0 : Old Z n0 h0) (Eo : Exa Z h0 ob "java/lang/Integer") :
    MetFree l (⟨"com/example/even_commute/evencommute/comparison/LinkEnds", "equals", "(Ljava/lang/Object;)Z"⟩ : MethodName) (head1 (Jvm.Cond.code (⟨"com/example/even_commute/evencommute/comparison/LinkEnds", "equals", "(Ljava/lang/Object;)Z"⟩ : MethodName) prog_19_method_4_code 3 (some .boolean) :: ws) ({ frames := 0, cells := 0, slots := 0, locals := 0 } : Room)) (fun aa_ UU_ => aa_ = #[(.ref a), (.ref ob)] ∧ Z.Warmed39 UU_.vm ∧ UU_.heap = h0) (fun _ _ _ _ _ => True) (fun _ UU_ oo_ UV_ => ∃ vv_ LL_, oo_ = .returned vv_ ∧ Q_rmEqI Z wC cC a ob h0 n0 vv_ UV_.heap LL_ ∧ FrameEnd UU_ oo_ UV_ LL_ ({ frames := 0, cells := 0, slots := 0, locals := 0 } : Room).cells ({ frames := 0, cells := 0, slots := 0, locals := 0 } : Room).slots) := by
  refine MetFree.of_bodySF (plainFor_of_name own_pn_com_example_even_commute_evencommute_comparison_LinkEnds) hisR ?_
  intro p e s m args below meth c s₁ Bd hml0 hP hK
  obtain ⟨rfl, hZ, hh⟩ := hP
  have hx := Bd.exec
  have hby := Bd.bytes
  have hml : c.maxLocals = 3 := hml0
  have hown : s.vm.findClass "com/example/even_commute/evencommute/comparison/LinkEnds" = some m.cls := findClass_of_methodNamed Bd.named
  have hnm := (name_of_methodNamed Bd.named Bd.method).1
  have X0 : Stand p l e ({ frames := 0, cells := 0, slots := 0, locals := 0 } : Room) s m #[(.ref a), (.ref ob)] below meth c s₁ [] 0 0 := Stand.of_body Bd
  have e0 : s₁.heap = h0 := by rw [← hh, Bd.state]; rfl
  have N0 := Fr.nil n0
  have hn0 : Z.heap.size = n0 := O0.1
  have KT0 : Keep h0 h0 [] := Keep.refl _ _
  refine own_enter (Φ := fun oo_ UV_ => ∃ vv_ LL_, oo_ = .returned vv_ ∧ Q_rmEqI Z wC cC a ob h0 n0 vv_ UV_.heap LL_ ∧ FrameEnd s oo_ UV_ LL_ ({ frames := 0, cells := 0, slots := 0, locals := 0 } : Room).cells ({ frames := 0, cells := 0, slots := 0, locals := 0 } : Room).slots) (own_ef_rmEqI m a ob) ?_
  refine own_by (T' := s₁) (g' := (mkF m 1 #[.val (.ref a), .val (.ref ob), .unset] [(.ref ob)])) (fun _ kt_ => XS.aloadN X0.here hx rfl (hb hby own_d4_0) rfl rfl kt_) ?_
  obtain ⟨T1, X1, e1, st1⟩ := instNo X0 hx hZ hown (hw _ (List.mem_of_getElem? (i := 23) rfl)) e0 Eo (own_noinst (hw _ (List.mem_of_getElem? (i := 46) rfl)) (hw _ (List.mem_of_getElem? (i := 6) rfl)) (NS.step (hw _ (List.mem_of_getElem? (i := 46) rfl)) (NS.step (hw _ (List.mem_of_getElem? (i := 47) rfl)) (own_nsroot (hw _ (List.mem_of_getElem? (i := 48) rfl)) (hw _ (List.mem_of_getElem? (i := 6) rfl)) (by decide)) (by decide)) (by decide)) (by decide)) (g := (mkF m 1 #[.val (.ref a), .val (.ref ob), .unset] [(.ref ob)])) rfl rfl (hb hby own_d4_1)
  refine own_by (T' := T1) (g' := (mkF m 4 #[.val (.ref a), .val (.ref ob), .unset] [(.int (0 : Int32))])) st1 ?_
  refine own_by (T' := T1) (g' := (mkF m 7 #[.val (.ref a), .val (.ref ob), .unset] [])) (fun _ kt_ => XS.ifNo X1.here hx rfl (hb hby own_d4_4) rfl (XT.i0_ne_f (by decide)) kt_) ?_
  refine own_by (T' := T1) (g' := (mkF m 8 #[.val (.ref a), .val (.ref ob), .unset] [(.int (0 : Int32))])) (fun _ kt_ => XS.iconst X1.here hx rfl (hb hby own_d4_7) kt_) ?_
  have hn2 : nar .boolean (0 : Int32) = (0 : Int32) := rfl
  obtain ⟨fs3, hr3, hrun3, hended3, hW3, hsame3⟩ := X1.leave (v := some (.int (nar .boolean (0 : Int32)))) (fun h => by rw [Bd.returns] at h; cases h)
  refine ⟨_, _, retN X1 hx (t := .boolean) Bd.returns (by simp) (hb hby own_d4_8) hr3, hrun3, hended3, _, _, rfl, ?_, ⟨_, rfl⟩, hW3, hsame3.mono (by decide) (by decide)⟩
  show Q_rmEqI Z wC cC a ob h0 n0 _ T1.heap _
  exact ⟨(congrArg (fun z => some (Value.int z)) hn2), N0, e1⟩
theorem own_d4_9 : decode prog_19_method_4_code 9 = .ok (.aload_n 1, 1) := by decide +kernel
theorem own_d4_10 : decode prog_19_method_4_code 10 = .ok (.checkcast 27, 3) := by decide +kernel
theorem own_d4_13 : decode prog_19_method_4_code 13 = .ok (.astore_n 2, 1) := by decide +kernel
theorem own_d4_14 : decode prog_19_method_4_code 14 = .ok (.aload_n 0, 1) := by decide +kernel
theorem own_d4_15 : decode prog_19_method_4_code 15 = .ok (.getfield 26, 3) := by decide +kernel
theorem own_d4_18 : decode prog_19_method_4_code 18 = .ok (.aload_n 2, 1) := by decide +kernel
theorem own_d4_19 : decode prog_19_method_4_code 19 = .ok (.getfield 26, 3) := by decide +kernel
theorem own_d4_22 : decode prog_19_method_4_code 22 = .ok (.if_icmp .ne 18, 3) := by decide +kernel
theorem own_d4_25 : decode prog_19_method_4_code 25 = .ok (.aload_n 0, 1) := by decide +kernel
theorem own_d4_26 : decode prog_19_method_4_code 26 = .ok (.getfield 32, 3) := by decide +kernel
theorem own_d4_29 : decode prog_19_method_4_code 29 = .ok (.aload_n 2, 1) := by decide +kernel
theorem own_d4_30 : decode prog_19_method_4_code 30 = .ok (.getfield 32, 3) := by decide +kernel
theorem own_d4_33 : decode prog_19_method_4_code 33 = .ok (.if_icmp .ne 7, 3) := by decide +kernel
theorem own_d4_36 : decode prog_19_method_4_code 36 = .ok (.iconst 1, 1) := by decide +kernel
theorem own_d4_37 : decode prog_19_method_4_code 37 = .ok (.goto 4, 3) := by decide +kernel
theorem own_d4_40 : decode prog_19_method_4_code 40 = .ok (.iconst 0, 1) := by decide +kernel
theorem own_d4_41 : decode prog_19_method_4_code 41 = .ok (.ireturn, 1) := by decide +kernel
theorem own_ef_rmEq (m : MethodId) (x0 : Addr) (x1 : Addr) : entryFrame m #[(.ref x0), (.ref x1)] 3 = mkF m 0 #[.val (.ref x0), .val (.ref x1), .unset] [] := by first | (simp [entryFrame, mkF, argsToLocals, Value.category]; done) | rfl
def Q_rmEq (Z : State) (wC : Addr) (cC : Cell) (a : Addr) (ob : Addr) (f : Int32) (t : Int32) (f2 : Int32) (t2 : Int32) (h0 : Heap) (n0 : Nat) (vv_ : Option Value) (hh_ : Heap) (LL_ : List Loc) : Prop := vv_ = some (.int (if f = f2 then (if t = t2 then (1 : Int32) else (0 : Int32)) else (0 : Int32))) ∧ Fr n0 LL_ ∧ hh_ = h0
set_option maxRecDepth 65536 in
set_option maxHeartbeats 40000000 in
theorem rmEq (l : Launch) (Z : State) (a0 : Array Value) (hw : ∀ d ∈ tables_1, d.before a0 Z = true) (ws : List Jvm.Cond) (wC : Addr) (cC : Cell) (GS : Glob Z wC cC) (a : Addr) (ob : Addr) (f : Int32) (t : Int32) (f2 : Int32) (t2 : Int32) (h0 : Heap) (n0 : Nat) (Z0 : n0 ≤ h0.size) (O0 : Old Z n0 h0) (Eo : Exa Z h0 ob "com/example/even_commute/evencommute/comparison/LinkEnds") (F1fromNode : Fld Z h0 a "com/example/even_commute/evencommute/comparison/LinkEnds" "fromNode" "I" (.int f)) (F1toNode : Fld Z h0 a "com/example/even_commute/evencommute/comparison/LinkEnds" "toNode" "I" (.int t)) (F2fromNode : Fld Z h0 ob "com/example/even_commute/evencommute/comparison/LinkEnds" "fromNode" "I" (.int f2)) (F2toNode : Fld Z h0 ob "com/example/even_commute/evencommute/comparison/LinkEnds" "toNode" "I" (.int t2)) :
    MetFree l (⟨"com/example/even_commute/evencommute/comparison/LinkEnds", "equals", "(Ljava/lang/Object;)Z"⟩ : MethodName) (head1 (Jvm.Cond.code (⟨"com/example/even_commute/evencommute/comparison/LinkEnds", "equals", "(Ljava/lang/Object;)Z"⟩ : MethodName) prog_19_method_4_code 3 (some .boolean) :: ws) ({ frames := 0, cells := 0, slots := 0, locals := 0 } : Room)) (fun aa_ UU_ => aa_ = #[(.ref a), (.ref ob)] ∧ Z.Warmed39 UU_.vm ∧ UU_.heap = h0) (fun _ _ _ _ _ => True) (fun _ UU_ oo_ UV_ => ∃ vv_ LL_, oo_ = .returned vv_ ∧ Q_rmEq Z wC cC a ob f t f2 t2 h0 n0 vv_ UV_.heap LL_ ∧ FrameEnd UU_ oo_ UV_ LL_ ({ frames := 0, cells := 0, slots := 0, locals := 0 } : Room).cells ({ frames := 0, cells := 0, slots := 0, locals := 0 } : Room).slots) := by
  refine MetFree.of_bodySF (plainFor_of_name own_pn_com_example_even_commute_evencommute_comparison_LinkEnds) hisR ?_
  intro p e s m args below meth c s₁ Bd hml0 hP hK
  obtain ⟨rfl, hZ, hh⟩ := hP
  have hx := Bd.exec
  have hby := Bd.bytes
  have hml : c.maxLocals = 3 := hml0
  have hown : s.vm.findClass "com/example/even_commute/evencommute/comparison/LinkEnds" = some m.cls := findClass_of_methodNamed Bd.named
  have hnm := (name_of_methodNamed Bd.named Bd.method).1
  have X0 : Stand p l e ({ frames := 0, cells := 0, slots := 0, locals := 0 } : Room) s m #[(.ref a), (.ref ob)] below meth c s₁ [] 0 0 := Stand.of_body Bd
  have e0 : s₁.heap = h0 := by rw [← hh, Bd.state]; rfl
  have N0 := Fr.nil n0
  have hn0 : Z.heap.size = n0 := O0.1
  have KT0 : Keep h0 h0 [] := Keep.refl _ _
  refine own_enter (Φ := fun oo_ UV_ => ∃ vv_ LL_, oo_ = .returned vv_ ∧ Q_rmEq Z wC cC a ob f t f2 t2 h0 n0 vv_ UV_.heap LL_ ∧ FrameEnd s oo_ UV_ LL_ ({ frames := 0, cells := 0, slots := 0, locals := 0 } : Room).cells ({ frames := 0, cells := 0, slots := 0, locals := 0 } : Room).slots) (own_ef_rmEq m a ob) ?_
  refine own_by (T' := s₁) (g' := (mkF m 1 #[.val (.ref a), .val (.ref ob), .unset] [(.ref ob)])) (fun _ kt_ => XS.aloadN X0.here hx rfl (hb hby own_d4_0) rfl rfl kt_) ?_
  obtain ⟨T1, X1, e1, st1⟩ := instY X0 hx hZ hown (hw _ (List.mem_of_getElem? (i := 23) rfl)) e0 (Ins.self Eo) (g := (mkF m 1 #[.val (.ref a), .val (.ref ob), .unset] [(.ref ob)])) rfl rfl (hb hby own_d4_1)
  refine own_by (T' := T1) (g' := (mkF m 4 #[.val (.ref a), .val (.ref ob), .unset] [(.int (1 : Int32))])) st1 ?_
  refine own_by (T' := T1) (g' := (mkF m 9 #[.val (.ref a), .val (.ref ob), .unset] [])) (fun _ kt_ => XS.ifYes X1.here hx rfl (pc0 := 4) (pc' := 9) rfl (hb hby own_d4_4) rfl (XT.i0_ne_t (by decide)) (by decide) (by decide) kt_) ?_
  refine own_by (T' := T1) (g' := (mkF m 10 #[.val (.ref a), .val (.ref ob), .unset] [(.ref ob)])) (fun _ kt_ => XS.aloadN X1.here hx rfl (hb hby own_d4_9) rfl rfl kt_) ?_
  obtain ⟨T2, X2, e2, st2⟩ := castY X1 hx hZ hown (hw _ (List.mem_of_getElem? (i := 23) rfl)) e1 (Ins.self Eo) (g := (mkF m 10 #[.val (.ref a), .val (.ref ob), .unset] [(.ref ob)])) rfl rfl (hb hby own_d4_10)
  refine own_by (T' := T2) (g' := (mkF m 13 #[.val (.ref a), .val (.ref ob), .unset] [(.ref ob)])) st2 ?_
  refine own_by (T' := T2) (g' := (mkF m 14 #[.val (.ref a), .val (.ref ob), .val (.ref ob)] [])) (fun _ kt_ => XS.astoreN X2.here hx rfl (hb hby own_d4_13) rfl rfl (l' := #[.val (.ref a), .val (.ref ob), .val (.ref ob)]) rfl kt_) ?_
  refine own_by (T' := T2) (g' := (mkF m 15 #[.val (.ref a), .val (.ref ob), .val (.ref ob)] [(.ref a)])) (fun _ kt_ => XS.aloadN X2.here hx rfl (hb hby own_d4_14) rfl rfl kt_) ?_
  obtain ⟨T3, X3, e3, st3⟩ := getF X2 hx hZ hown (host := "") (Or.inl (hw _ (List.mem_of_getElem? (i := 14) rfl))) Via.refl e2 F1fromNode (g := (mkF m 15 #[.val (.ref a), .val (.ref ob), .val (.ref ob)] [(.ref a)])) rfl rfl (hb hby own_d4_15)
  refine own_by (T' := T3) (g' := (mkF m 18 #[.val (.ref a), .val (.ref ob), .val (.ref ob)] [(.int f)])) st3 ?_
  refine own_by (T' := T3) (g' := (mkF m 19 #[.val (.ref a), .val (.ref ob), .val (.ref ob)] [(.ref ob), (.int f)])) (fun _ kt_ => XS.aloadN X3.here hx rfl (hb hby own_d4_18) rfl rfl kt_) ?_
  obtain ⟨T4, X4, e4, st4⟩ := getF X3 hx hZ hown (host := "") (Or.inl (hw _ (List.mem_of_getElem? (i := 14) rfl))) Via.refl e3 F2fromNode (g := (mkF m 19 #[.val (.ref a), .val (.ref ob), .val (.ref ob)] [(.ref ob), (.int f)])) rfl rfl (hb hby own_d4_19)
  refine own_by (T' := T4) (g' := (mkF m 22 #[.val (.ref a), .val (.ref ob), .val (.ref ob)] [(.int f2), (.int f)])) st4 ?_
  by_cases hc5 : f = f2
  · refine own_by (T' := T4) (g' := (mkF m 25 #[.val (.ref a), .val (.ref ob), .val (.ref ob)] [])) (fun _ kt_ => XS.icmpNo X4.here hx rfl (hb hby own_d4_22) rfl (XT.ii_ne_f hc5) kt_) ?_
    refine own_by (T' := T4) (g' := (mkF m 26 #[.val (.ref a), .val (.ref ob), .val (.ref ob)] [(.ref a)])) (fun _ kt_ => XS.aloadN X4.here hx rfl (hb hby own_d4_25) rfl rfl kt_) ?_
    obtain ⟨T6, X6, e6, st6⟩ := getF X4 hx hZ hown (host := "") (Or.inl (hw _ (List.mem_of_getElem? (i := 16) rfl))) Via.refl e4 F1toNode (g := (mkF m 26 #[.val (.ref a), .val (.ref ob), .val (.ref ob)] [(.ref a)])) rfl rfl (hb hby own_d4_26)
    refine own_by (T' := T6) (g' := (mkF m 29 #[.val (.ref a), .val (.ref ob), .val (.ref ob)] [(.int t)])) st6 ?_
    refine own_by (T' := T6) (g' := (mkF m 30 #[.val (.ref a), .val (.ref ob), .val (.ref ob)] [(.ref ob), (.int t)])) (fun _ kt_ => XS.aloadN X6.here hx rfl (hb hby own_d4_29) rfl rfl kt_) ?_
    obtain ⟨T7, X7, e7, st7⟩ := getF X6 hx hZ hown (host := "") (Or.inl (hw _ (List.mem_of_getElem? (i := 16) rfl))) Via.refl e6 F2toNode (g := (mkF m 30 #[.val (.ref a), .val (.ref ob), .val (.ref ob)] [(.ref ob), (.int t)])) rfl rfl (hb hby own_d4_30)
    refine own_by (T' := T7) (g' := (mkF m 33 #[.val (.ref a), .val (.ref ob), .val (.ref ob)] [(.int t2), (.int t)])) st7 ?_
    by_cases hc8 : t = t2
    · refine own_by (T' := T7) (g' := (mkF m 36 #[.val (.ref a), .val (.ref ob), .val (.ref ob)] [])) (fun _ kt_ => XS.icmpNo X7.here hx rfl (hb hby own_d4_33) rfl (XT.ii_ne_f hc8) kt_) ?_
      refine own_by (T' := T7) (g' := (mkF m 37 #[.val (.ref a), .val (.ref ob), .val (.ref ob)] [(.int (1 : Int32))])) (fun _ kt_ => XS.iconst X7.here hx rfl (hb hby own_d4_36) kt_) ?_
      refine own_by (T' := T7) (g' := (mkF m 41 #[.val (.ref a), .val (.ref ob), .val (.ref ob)] [(.int (1 : Int32))])) (fun _ kt_ => XS.goto X7.here hx rfl (pc0 := 37) (pc' := 41) rfl (hb hby own_d4_37) (by decide) (by decide) kt_) ?_
      have hn9 : nar .boolean (1 : Int32) = (1 : Int32) := rfl
      have hr10 : (1 : Int32) = (if f = f2 then (if t = t2 then (1 : Int32) else (0 : Int32)) else (0 : Int32)) := by simp [hc5, hc8]
      obtain ⟨fs11, hr11, hrun11, hended11, hW11, hsame11⟩ := X7.leave (v := some (.int (nar .boolean (1 : Int32)))) (fun h => by rw [Bd.returns] at h; cases h)
      refine ⟨_, _, retN X7 hx (t := .boolean) Bd.returns (by simp) (hb hby own_d4_41) hr11, hrun11, hended11, _, _, rfl, ?_, ⟨_, rfl⟩, hW11, hsame11.mono (by decide) (by decide)⟩
      show Q_rmEq Z wC cC a ob f t f2 t2 h0 n0 _ T7.heap _
      exact ⟨(congrArg (fun z => some (Value.int z)) (hn9.trans hr10)), N0, e7⟩
    · refine own_by (T' := T7) (g' := (mkF m 40 #[.val (.ref a), .val (.ref ob), .val (.ref ob)] [])) (fun _ kt_ => XS.icmpYes X7.here hx rfl (pc0 := 33) (pc' := 40) rfl (hb hby own_d4_33) rfl (XT.ii_ne_t hc8) (by decide) (by decide) kt_) ?_
      refine own_by (T' := T7) (g' := (mkF m 41 #[.val (.ref a), .val (.ref ob), .val (.ref ob)] [(.int (0 : Int32))])) (fun _ kt_ => XS.iconst X7.here hx rfl (hb hby own_d4_40) kt_) ?_
      have hn12 : nar .boolean (0 : Int32) = (0 : Int32) := rfl
      have hr13 : (0 : Int32) = (if f = f2 then (if t = t2 then (1 : Int32) else (0 : Int32)) else (0 : Int32)) := by simp [hc5, hc8]
      obtain ⟨fs14, hr14, hrun14, hended14, hW14, hsame14⟩ := X7.leave (v := some (.int (nar .boolean (0 : Int32)))) (fun h => by rw [Bd.returns] at h; cases h)
      refine ⟨_, _, retN X7 hx (t := .boolean) Bd.returns (by simp) (hb hby own_d4_41) hr14, hrun14, hended14, _, _, rfl, ?_, ⟨_, rfl⟩, hW14, hsame14.mono (by decide) (by decide)⟩
      show Q_rmEq Z wC cC a ob f t f2 t2 h0 n0 _ T7.heap _
      exact ⟨(congrArg (fun z => some (Value.int z)) (hn12.trans hr13)), N0, e7⟩
  · refine own_by (T' := T4) (g' := (mkF m 40 #[.val (.ref a), .val (.ref ob), .val (.ref ob)] [])) (fun _ kt_ => XS.icmpYes X4.here hx rfl (pc0 := 22) (pc' := 40) rfl (hb hby own_d4_22) rfl (XT.ii_ne_t hc5) (by decide) (by decide) kt_) ?_
    refine own_by (T' := T4) (g' := (mkF m 41 #[.val (.ref a), .val (.ref ob), .val (.ref ob)] [(.int (0 : Int32))])) (fun _ kt_ => XS.iconst X4.here hx rfl (hb hby own_d4_40) kt_) ?_
    have hn15 : nar .boolean (0 : Int32) = (0 : Int32) := rfl
    have hr16 : (0 : Int32) = (if f = f2 then (if t = t2 then (1 : Int32) else (0 : Int32)) else (0 : Int32)) := by simp [hc5]
    obtain ⟨fs17, hr17, hrun17, hended17, hW17, hsame17⟩ := X4.leave (v := some (.int (nar .boolean (0 : Int32)))) (fun h => by rw [Bd.returns] at h; cases h)
    refine ⟨_, _, retN X4 hx (t := .boolean) Bd.returns (by simp) (hb hby own_d4_41) hr17, hrun17, hended17, _, _, rfl, ?_, ⟨_, rfl⟩, hW17, hsame17.mono (by decide) (by decide)⟩
    show Q_rmEq Z wC cC a ob f t f2 t2 h0 n0 _ T4.heap _
    exact ⟨(congrArg (fun z => some (Value.int z)) (hn15.trans hr16)), N0, e4⟩
theorem own_pd_2 : parseMethodDescriptor "(I)I" = some ⟨[.int], some .int⟩ := by decide +kernel
theorem own_pd_3 : parseMethodDescriptor "(II)V" = some ⟨[.int, .int], none⟩ := by decide +kernel
theorem own_pd_4 : parseMethodDescriptor "(Ljava/lang/Object;)Z" = some ⟨[(.object "java/lang/Object")], some .boolean⟩ := by decide +kernel
theorem own_pd_5 : parseMethodDescriptor "(I)Ljava/lang/Integer;" = some ⟨[.int], some (.object "java/lang/Integer")⟩ := by decide +kernel
theorem own_ef_rm0 (m : MethodId) (x0 : Int32) (x1 : Int32) (x2 : Int32) (x3 : Int32) (x4 : Int32) : entryFrame m #[(.int x0), (.int x1), (.int x2), (.int x3), (.int x4)] maxLocals = mkF m 0 #[.val (.int x0), .val (.int x1), .val (.int x2), .val (.int x3), .val (.int x4), .unset, .unset, .unset, .unset, .unset, .unset, .unset, .unset, .unset, .unset, .unset, .unset] [] := by first | (simp [entryFrame, mkF, argsToLocals, Value.category, maxLocals]; done) | rfl
def Q_rm0 (Z : State) (wC : Addr) (cC : Cell) (p0 : Int32) (p1 : Int32) (p2 : Int32) (p3 : Int32) (p4 : Int32) (h0 : Heap) (n0 : Nat) (vv_ : Option Value) (hh_ : Heap) (LL_ : List Loc) : Prop := vv_ = some (.int (1 : Int32)) ∧ Fr n0 LL_
set_option maxRecDepth 65536 in
set_option maxHeartbeats 40000000 in
theorem rm0 (l : Launch) (Z : State) (a0 : Array Value) (hw : ∀ d ∈ tables_1, d.before a0 Z = true) (ws : List Jvm.Cond) (wC : Addr) (cC : Cell) (GS : Glob Z wC cC) (p0 : Int32) (p1 : Int32) (p2 : Int32) (p3 : Int32) (p4 : Int32) (h0 : Heap) (n0 : Nat) (Z0 : n0 ≤ h0.size) (O0 : Old Z n0 h0) :
    MetFree l x (head1 (Jvm.Cond.code x code maxLocals ret :: ws) room_1) (fun aa_ UU_ => aa_ = #[(.int p0), (.int p1), (.int p2), (.int p3), (.int p4)] ∧ Z.Warmed39 UU_.vm ∧ UU_.heap = h0) (fun _ _ _ _ _ => True) (fun _ UU_ oo_ UV_ => ∃ vv_ LL_, oo_ = .returned vv_ ∧ Q_rm0 Z wC cC p0 p1 p2 p3 p4 h0 n0 vv_ UV_.heap LL_ ∧ FrameEnd UU_ oo_ UV_ LL_ 2 4) := by
  refine MetFree.of_bodySF (plainFor_of_name own_pn_com_example_even_commute_evencommute_comparison_LinkEndsEqualsPinLaw) hisR ?_
  intro p e s m args below meth c s₁ Bd hml0 hP hK
  obtain ⟨rfl, hZ, hh⟩ := hP
  have hx := Bd.exec
  have hby := Bd.bytes
  have hml : c.maxLocals = 17 := hml0
  have hown : s.vm.findClass "com/example/even_commute/evencommute/comparison/LinkEndsEqualsPinLaw" = some m.cls := findClass_of_methodNamed Bd.named
  have hnm := (name_of_methodNamed Bd.named Bd.method).1
  have X0 : Stand p l e room_1 s m #[(.int p0), (.int p1), (.int p2), (.int p3), (.int p4)] below meth c s₁ [] 0 0 := Stand.of_body Bd
  have e0 : s₁.heap = h0 := by rw [← hh, Bd.state]; rfl
  have N0 := Fr.nil n0
  have hn0 : Z.heap.size = n0 := O0.1
  have KT0 : Keep h0 h0 [] := Keep.refl _ _
  refine own_enter (Φ := fun oo_ UV_ => ∃ vv_ LL_, oo_ = .returned vv_ ∧ Q_rm0 Z wC cC p0 p1 p2 p3 p4 h0 n0 vv_ UV_.heap LL_ ∧ FrameEnd s oo_ UV_ LL_ 2 4) (own_ef_rm0 m p0 p1 p2 p3 p4) ?_
  refine own_by (T' := s₁) (g' := (mkF m 1 #[.val (.int p0), .val (.int p1), .val (.int p2), .val (.int p3), .val (.int p4), .unset, .unset, .unset, .unset, .unset, .unset, .unset, .unset, .unset, .unset, .unset, .unset] [(.int p0)])) (fun _ kt_ => XS.iloadN X0.here hx rfl (hb hby at_0) rfl kt_) ?_
  obtain ⟨_, _, ⟨T1, L1, k1, n1⟩, -, X1, ⟨Lc1, hQ1, l1, y1, z1⟩, st1⟩ := Jvm.LawKit.callS X0 hx (y := (⟨"com/example/even_commute/evencommute/comparison/LinkEndsEqualsPinLaw", "pos", "(I)I"⟩ : MethodName)) hown (mvT hZ (hw _ (List.mem_of_getElem? (i := 0) rfl))) (mvT hZ (hw _ (List.mem_of_getElem? (i := 1) rfl))) (mvT hZ (hw _ (List.mem_of_getElem? (i := 2) rfl))) (mvT hZ (hw _ (List.mem_of_getElem? (i := 3) rfl))) (by decide) (backOf (W := 0) (rmPos l Z a0 hw [] wC cC GS p0 h0 n0 (by omega) O0 ) hZ (hw _ (List.mem_of_getElem? (i := 3) rfl)) (hw _ (List.mem_of_getElem? (i := 2) rfl)) (by decide) (by decide)) (g := (mkF m 1 #[.val (.int p0), .val (.int p1), .val (.int p2), .val (.int p3), .val (.int p4), .unset, .unset, .unset, .unset, .unset, .unset, .unset, .unset, .unset, .unset, .unset, .unset] [(.int p0)])) rfl (by rw [hml]; rfl) (argsL := [(.int p0)]) (rest := []) (lenOf own_pd_2 rfl) rfl (by show 2 * 0 + _ ≤ _; exact Nat.le_of_eq rfl) (hb hby at_1) (fun _ _ => ⟨rfl, e0, (by decide : 0 + 0 ≤ _), (by decide : 0 + 0 ≤ _)⟩)
  dsimp only [Pt.U, Pt.locs, Pt.cells, Pt.slots] at X1 l1 y1 z1 st1 hQ1
  subst l1 y1 z1
  obtain ⟨rfl, N1q, e1⟩ := hQ1
  have N2 := Fr.app N0 N1q
  refine own_by (T' := T1) (g' := (mkF m 4 #[.val (.int p0), .val (.int p1), .val (.int p2), .val (.int p3), .val (.int p4), .unset, .unset, .unset, .unset, .unset, .unset, .unset, .unset, .unset, .unset, .unset, .unset] [(.int (posF p0))])) st1 ?_
  refine own_by (T' := T1) (g' := (mkF m 6 #[.val (.int p0), .val (.int p1), .val (.int p2), .val (.int p3), .val (.int p4), .val (.int (posF p0)), .unset, .unset, .unset, .unset, .unset, .unset, .unset, .unset, .unset, .unset, .unset] [])) (fun _ kt_ => XS.istore X1.here hx rfl (hb hby at_4) rfl (l' := #[.val (.int p0), .val (.int p1), .val (.int p2), .val (.int p3), .val (.int p4), .val (.int (posF p0)), .unset, .unset, .unset, .unset, .unset, .unset, .unset, .unset, .unset, .unset, .unset]) rfl kt_) ?_
  refine own_by (T' := T1) (g' := (mkF m 7 #[.val (.int p0), .val (.int p1), .val (.int p2), .val (.int p3), .val (.int p4), .val (.int (posF p0)), .unset, .unset, .unset, .unset, .unset, .unset, .unset, .unset, .unset, .unset, .unset] [(.int p1)])) (fun _ kt_ => XS.iloadN X1.here hx rfl (hb hby at_6) rfl kt_) ?_
  obtain ⟨_, _, ⟨T3, L3, k3, n3⟩, -, X3, ⟨Lc3, hQ3, l3, y3, z3⟩, st3⟩ := Jvm.LawKit.callS X1 hx (y := (⟨"com/example/even_commute/evencommute/comparison/LinkEndsEqualsPinLaw", "pos", "(I)I"⟩ : MethodName)) hown (mvT hZ (hw _ (List.mem_of_getElem? (i := 0) rfl))) (mvT hZ (hw _ (List.mem_of_getElem? (i := 1) rfl))) (mvT hZ (hw _ (List.mem_of_getElem? (i := 2) rfl))) (mvT hZ (hw _ (List.mem_of_getElem? (i := 3) rfl))) (by decide) (backOf (W := 0) (rmPos l Z a0 hw [] wC cC GS p1 h0 n0 (by omega) O0 ) hZ (hw _ (List.mem_of_getElem? (i := 3) rfl)) (hw _ (List.mem_of_getElem? (i := 2) rfl)) (by decide) (by decide)) (g := (mkF m 7 #[.val (.int p0), .val (.int p1), .val (.int p2), .val (.int p3), .val (.int p4), .val (.int (posF p0)), .unset, .unset, .unset, .unset, .unset, .unset, .unset, .unset, .unset, .unset, .unset] [(.int p1)])) rfl (by rw [hml]; rfl) (argsL := [(.int p1)]) (rest := []) (lenOf own_pd_2 rfl) rfl (by show 2 * 0 + _ ≤ _; exact Nat.le_of_eq rfl) (hb hby at_7) (fun _ _ => ⟨rfl, e1, (by decide : 0 + 0 ≤ _), (by decide : 0 + 0 ≤ _)⟩)
  dsimp only [Pt.U, Pt.locs, Pt.cells, Pt.slots] at X3 l3 y3 z3 st3 hQ3
  subst l3 y3 z3
  obtain ⟨rfl, N3q, e3⟩ := hQ3
  have N4 := Fr.app N2 N3q
  refine own_by (T' := T3) (g' := (mkF m 10 #[.val (.int p0), .val (.int p1), .val (.int p2), .val (.int p3), .val (.int p4), .val (.int (posF p0)), .unset, .unset, .unset, .unset, .unset, .unset, .unset, .unset, .unset, .unset, .unset] [(.int (posF p1))])) st3 ?_
  refine own_by (T' := T3) (g' := (mkF m 12 #[.val (.int p0), .val (.int p1), .val (.int p2), .val (.int p3), .val (.int p4), .val (.int (posF p0)), .val (.int (posF p1)), .unset, .unset, .unset, .unset, .unset, .unset, .unset, .unset, .unset, .unset] [])) (fun _ kt_ => XS.istore X3.here hx rfl (hb hby at_10) rfl (l' := #[.val (.int p0), .val (.int p1), .val (.int p2), .val (.int p3), .val (.int p4), .val (.int (posF p0)), .val (.int (posF p1)), .unset, .unset, .unset, .unset, .unset, .unset, .unset, .unset, .unset, .unset]) rfl kt_) ?_
  have J5 : ∀ (T5 : State) (lo5 : List Loc) (X5 : Stand p l e room_1 s m #[(.int p0), (.int p1), (.int p2), (.int p3), (.int p4)] below meth c T5 lo5 0 0) (e5 : T5.heap = h0) (N5 : Fr n0 lo5) (x2 : Int32), ¬ x2 < (1 : Int32) → OGoal p e below (fun oo_ UV_ => ∃ vv_ LL_, oo_ = .returned vv_ ∧ Q_rm0 Z wC cC p0 p1 p2 p3 p4 h0 n0 vv_ UV_.heap LL_ ∧ FrameEnd s oo_ UV_ LL_ 2 4) T5 (mkF m 28 #[.val (.int p0), .val (.int p1), .val (.int p2), .val (.int p3), .val (.int p4), .val (.int (posF p0)), .val (.int (posF p1)), .unset, .unset, .unset, .unset, .unset, .unset, .unset, .unset, .unset, .unset] [(.int x2)]) := by
    intro T5 lo5 X5 e5 N5 x2  hj6
    refine own_by (T' := T5) (g' := (mkF m 30 #[.val (.int p0), .val (.int p1), .val (.int p2), .val (.int p3), .val (.int p4), .val (.int (posF p0)), .val (.int (posF p1)), .val (.int x2), .unset, .unset, .unset, .unset, .unset, .unset, .unset, .unset, .unset] [])) (fun _ kt_ => XS.istore X5.here hx rfl (hb hby at_28) rfl (l' := #[.val (.int p0), .val (.int p1), .val (.int p2), .val (.int p3), .val (.int p4), .val (.int (posF p0)), .val (.int (posF p1)), .val (.int x2), .unset, .unset, .unset, .unset, .unset, .unset, .unset, .unset, .unset]) rfl kt_) ?_
    have J7 : ∀ (T7 : State) (lo7 : List Loc) (X7 : Stand p l e room_1 s m #[(.int p0), (.int p1), (.int p2), (.int p3), (.int p4)] below meth c T7 lo7 0 0) (e7 : T7.heap = h0) (N7 : Fr n0 lo7) (y2 : Int32), ¬ y2 < (1 : Int32) → OGoal p e below (fun oo_ UV_ => ∃ vv_ LL_, oo_ = .returned vv_ ∧ Q_rm0 Z wC cC p0 p1 p2 p3 p4 h0 n0 vv_ UV_.heap LL_ ∧ FrameEnd s oo_ UV_ LL_ 2 4) T7 (mkF m 46 #[.val (.int p0), .val (.int p1), .val (.int p2), .val (.int p3), .val (.int p4), .val (.int (posF p0)), .val (.int (posF p1)), .val (.int x2), .unset, .unset, .unset, .unset, .unset, .unset, .unset, .unset, .unset] [(.int y2)]) := by
      intro T7 lo7 X7 e7 N7 y2  hj8
      refine own_by (T' := T7) (g' := (mkF m 48 #[.val (.int p0), .val (.int p1), .val (.int p2), .val (.int p3), .val (.int p4), .val (.int (posF p0)), .val (.int (posF p1)), .val (.int x2), .val (.int y2), .unset, .unset, .unset, .unset, .unset, .unset, .unset, .unset] [])) (fun _ kt_ => XS.istore X7.here hx rfl (hb hby at_46) rfl (l' := #[.val (.int p0), .val (.int p1), .val (.int p2), .val (.int p3), .val (.int p4), .val (.int (posF p0)), .val (.int (posF p1)), .val (.int x2), .val (.int y2), .unset, .unset, .unset, .unset, .unset, .unset, .unset, .unset]) rfl kt_) ?_
      refine own_by (T' := T7) (g' := (mkF m 50 #[.val (.int p0), .val (.int p1), .val (.int p2), .val (.int p3), .val (.int p4), .val (.int (posF p0)), .val (.int (posF p1)), .val (.int x2), .val (.int y2), .unset, .unset, .unset, .unset, .unset, .unset, .unset, .unset] [(.int p4)])) (fun _ kt_ => XS.iload X7.here hx rfl (hb hby at_48) rfl kt_) ?_
      refine own_by (T' := T7) (g' := (mkF m 51 #[.val (.int p0), .val (.int p1), .val (.int p2), .val (.int p3), .val (.int p4), .val (.int (posF p0)), .val (.int (posF p1)), .val (.int x2), .val (.int y2), .unset, .unset, .unset, .unset, .unset, .unset, .unset, .unset] [(.int (2 : Int32)), (.int p4)])) (fun _ kt_ => XS.iconst X7.here hx rfl (hb hby at_50) kt_) ?_
      refine own_by (T' := T7) (g' := (mkF m 52 #[.val (.int p0), .val (.int p1), .val (.int p2), .val (.int p3), .val (.int p4), .val (.int (posF p0)), .val (.int (posF p1)), .val (.int x2), .val (.int y2), .unset, .unset, .unset, .unset, .unset, .unset, .unset, .unset] [(.int ((p4.toUInt32 >>> ((2 : Int32) &&& 31).toUInt32).toInt32))])) (fun _ kt_ => XS.iushr X7.here hx rfl (hb hby at_51) rfl kt_) ?_
      refine own_by (T' := T7) (g' := (mkF m 54 #[.val (.int p0), .val (.int p1), .val (.int p2), .val (.int p3), .val (.int p4), .val (.int (posF p0)), .val (.int (posF p1)), .val (.int x2), .val (.int y2), .unset, .unset, .unset, .unset, .unset, .unset, .unset, .unset] [(.int (7 : Int32)), (.int ((p4.toUInt32 >>> ((2 : Int32) &&& 31).toUInt32).toInt32))])) (fun _ kt_ => XS.bipush X7.here hx rfl (hb hby at_52) kt_) ?_
      refine own_by (T' := T7) (g' := (mkF m 55 #[.val (.int p0), .val (.int p1), .val (.int p2), .val (.int p3), .val (.int p4), .val (.int (posF p0)), .val (.int (posF p1)), .val (.int x2), .val (.int y2), .unset, .unset, .unset, .unset, .unset, .unset, .unset, .unset] [(.int (((p4.toUInt32 >>> ((2 : Int32) &&& 31).toUInt32).toInt32) &&& (7 : Int32)))])) (fun _ kt_ => XS.iand X7.here hx rfl (hb hby at_54) rfl kt_) ?_
      refine own_by (T' := T7) (g' := (mkF m 57 #[.val (.int p0), .val (.int p1), .val (.int p2), .val (.int p3), .val (.int p4), .val (.int (posF p0)), .val (.int (posF p1)), .val (.int x2), .val (.int y2), .val (.int (((p4.toUInt32 >>> ((2 : Int32) &&& 31).toUInt32).toInt32) &&& (7 : Int32))), .unset, .unset, .unset, .unset, .unset, .unset, .unset] [])) (fun _ kt_ => XS.istore X7.here hx rfl (hb hby at_55) rfl (l' := #[.val (.int p0), .val (.int p1), .val (.int p2), .val (.int p3), .val (.int p4), .val (.int (posF p0)), .val (.int (posF p1)), .val (.int x2), .val (.int y2), .val (.int (((p4.toUInt32 >>> ((2 : Int32) &&& 31).toUInt32).toInt32) &&& (7 : Int32))), .unset, .unset, .unset, .unset, .unset, .unset, .unset]) rfl kt_) ?_
      obtain ⟨T9, h9, X9, e9, E9, A9, D9, -, st9⟩ := newO X7 hx hZ hown (hw _ (List.mem_of_getElem? (i := 5) rfl)) (hw _ (List.mem_of_getElem? (i := 6) rfl)) (hw _ (List.mem_of_getElem? (i := 7) rfl)) e7 (g := (mkF m 57 #[.val (.int p0), .val (.int p1), .val (.int p2), .val (.int p3), .val (.int p4), .val (.int (posF p0)), .val (.int (posF p1)), .val (.int x2), .val (.int y2), .val (.int (((p4.toUInt32 >>> ((2 : Int32) &&& 31).toUInt32).toInt32) &&& (7 : Int32))), .unset, .unset, .unset, .unset, .unset, .unset, .unset] [])) rfl (hb hby at_57) (by decide) (by decide)
      obtain ⟨b9, g9⟩ : ∃ z, z = h0.size := ⟨_, rfl⟩
      rw [← g9] at A9 D9 st9
      have K10 : Keep h0 h9 [] := own_kext E9
      have zzK10 : h0.size ≤ h9.size := K10.1
      have oo11 : Old Z n0 h9 := O0.keep K10 all0
      have kt12 : Keep h0 h9 [] := KT0.trans K10 all0
      have lab9 : b9 < h9.size := A9.lt
      have f13 : Fld Z h9 b9 "com/example/even_commute/evencommute/comparison/LinkEnds" "fromNode" "I" (.int (0 : Int32)) := D9 (Or.inr (hw _ (List.mem_of_getElem? (i := 15) rfl))) (ty := .int) (by decide)
      have f14 : Fld Z h9 b9 "com/example/even_commute/evencommute/comparison/LinkEnds" "toNode" "I" (.int (0 : Int32)) := D9 (Or.inr (hw _ (List.mem_of_getElem? (i := 17) rfl))) (ty := .int) (by decide)
      refine own_by (T' := T9) (g' := (mkF m 60 #[.val (.int p0), .val (.int p1), .val (.int p2), .val (.int p3), .val (.int p4), .val (.int (posF p0)), .val (.int (posF p1)), .val (.int x2), .val (.int y2), .val (.int (((p4.toUInt32 >>> ((2 : Int32) &&& 31).toUInt32).toInt32) &&& (7 : Int32))), .unset, .unset, .unset, .unset, .unset, .unset, .unset] [(.ref b9)])) st9 ?_
      refine own_by (T' := T9) (g' := (mkF m 61 #[.val (.int p0), .val (.int p1), .val (.int p2), .val (.int p3), .val (.int p4), .val (.int (posF p0)), .val (.int (posF p1)), .val (.int x2), .val (.int y2), .val (.int (((p4.toUInt32 >>> ((2 : Int32) &&& 31).toUInt32).toInt32) &&& (7 : Int32))), .unset, .unset, .unset, .unset, .unset, .unset, .unset] [(.ref b9), (.ref b9)])) (fun _ kt_ => XS.dup X9.here hx rfl (hb hby at_60) rfl rfl kt_) ?_
      refine own_by (T' := T9) (g' := (mkF m 63 #[.val (.int p0), .val (.int p1), .val (.int p2), .val (.int p3), .val (.int p4), .val (.int (posF p0)), .val (.int (posF p1)), .val (.int x2), .val (.int y2), .val (.int (((p4.toUInt32 >>> ((2 : Int32) &&& 31).toUInt32).toInt32) &&& (7 : Int32))), .unset, .unset, .unset, .unset, .unset, .unset, .unset] [(.int (posF p0)), (.ref b9), (.ref b9)])) (fun _ kt_ => XS.iload X9.here hx rfl (hb hby at_61) rfl kt_) ?_
      refine own_by (T' := T9) (g' := (mkF m 65 #[.val (.int p0), .val (.int p1), .val (.int p2), .val (.int p3), .val (.int p4), .val (.int (posF p0)), .val (.int (posF p1)), .val (.int x2), .val (.int y2), .val (.int (((p4.toUInt32 >>> ((2 : Int32) &&& 31).toUInt32).toInt32) &&& (7 : Int32))), .unset, .unset, .unset, .unset, .unset, .unset, .unset] [(.int (posF p1)), (.int (posF p0)), (.ref b9), (.ref b9)])) (fun _ kt_ => XS.iload X9.here hx rfl (hb hby at_63) rfl kt_) ?_
      obtain ⟨_, _, ⟨T15, L15, k15, n15⟩, -, X15, ⟨Lc15, hQ15, l15, y15, z15⟩, st15⟩ := X9.specialBack hx (y := (⟨"com/example/even_commute/evencommute/comparison/LinkEnds", "<init>", "(II)V"⟩ : MethodName)) rfl hown (mvT hZ (hw _ (List.mem_of_getElem? (i := 8) rfl))) (mvT hZ (hw _ (List.mem_of_getElem? (i := 9) rfl))) (mvT hZ (hw _ (List.mem_of_getElem? (i := 10) rfl))) (by decide) (backOf (W := 1) (rmIni l Z a0 hw [] wC cC GS b9 (posF p0) (posF p1) h9 n0 (by omega) oo11 (own_pos _) (own_pos _) A9 (by omega) f13 f14) hZ (hw _ (List.mem_of_getElem? (i := 10) rfl)) (hw _ (List.mem_of_getElem? (i := 7) rfl)) (by decide) (by decide)) (g := (mkF m 65 #[.val (.int p0), .val (.int p1), .val (.int p2), .val (.int p3), .val (.int p4), .val (.int (posF p0)), .val (.int (posF p1)), .val (.int x2), .val (.int y2), .val (.int (((p4.toUInt32 >>> ((2 : Int32) &&& 31).toUInt32).toInt32) &&& (7 : Int32))), .unset, .unset, .unset, .unset, .unset, .unset, .unset] [(.int (posF p1)), (.int (posF p0)), (.ref b9), (.ref b9)])) rfl (by rw [hml]; rfl) (Steps.refl _) (a := b9) (argsL := [(.int (posF p0)), (.int (posF p1))]) (rest := [(.ref b9)]) (lenOf own_pd_3 rfl) rfl (by show 2 * 0 + _ ≤ _; exact Nat.le_of_eq rfl) (hb hby at_65) (fun _ _ => ⟨rfl, e9, (by decide : 1 + 0 ≤ _), (by decide : 2 + 0 ≤ _)⟩)
      dsimp only [Pt.U, Pt.locs, Pt.cells, Pt.slots] at X15 l15 y15 z15 st15 hQ15
      subst l15 y15 z15
      obtain ⟨rfl, N15q, K15, p15_0, p15_1⟩ := hQ15
      have N16 := Fr.app N7 N15q
      have zzK15 : h9.size ≤ T15.heap.size := K15.1
      have oo17 : Old Z n0 T15.heap := oo11.keep K15 (allS (by omega : n0 ≤ b9) all0)
      have kt18 : Keep h0 T15.heap [] := kt12.trans K15 (allS (Or.inr (by omega : h0.size ≤ b9)) all0)
      refine own_by (T' := T15) (g' := (mkF m 68 #[.val (.int p0), .val (.int p1), .val (.int p2), .val (.int p3), .val (.int p4), .val (.int (posF p0)), .val (.int (posF p1)), .val (.int x2), .val (.int y2), .val (.int (((p4.toUInt32 >>> ((2 : Int32) &&& 31).toUInt32).toInt32) &&& (7 : Int32))), .unset, .unset, .unset, .unset, .unset, .unset, .unset] [(.ref b9)])) (fun _ kt_ => st15.trans kt_) ?_
      refine own_by (T' := T15) (g' := (mkF m 70 #[.val (.int p0), .val (.int p1), .val (.int p2), .val (.int p3), .val (.int p4), .val (.int (posF p0)), .val (.int (posF p1)), .val (.int x2), .val (.int y2), .val (.int (((p4.toUInt32 >>> ((2 : Int32) &&& 31).toUInt32).toInt32) &&& (7 : Int32))), .val (.ref b9), .unset, .unset, .unset, .unset, .unset, .unset] [])) (fun _ kt_ => XS.astore X15.here hx rfl (hb hby at_68) rfl rfl (l' := #[.val (.int p0), .val (.int p1), .val (.int p2), .val (.int p3), .val (.int p4), .val (.int (posF p0)), .val (.int (posF p1)), .val (.int x2), .val (.int y2), .val (.int (((p4.toUInt32 >>> ((2 : Int32) &&& 31).toUInt32).toInt32) &&& (7 : Int32))), .val (.ref b9), .unset, .unset, .unset, .unset, .unset, .unset]) rfl kt_) ?_
      refine own_by (T' := T15) (g' := (mkF m 72 #[.val (.int p0), .val (.int p1), .val (.int p2), .val (.int p3), .val (.int p4), .val (.int (posF p0)), .val (.int (posF p1)), .val (.int x2), .val (.int y2), .val (.int (((p4.toUInt32 >>> ((2 : Int32) &&& 31).toUInt32).toInt32) &&& (7 : Int32))), .val (.ref b9), .unset, .unset, .unset, .unset, .unset, .unset] [(.int (((p4.toUInt32 >>> ((2 : Int32) &&& 31).toUInt32).toInt32) &&& (7 : Int32)))])) (fun _ kt_ => XS.iload X15.here hx rfl (hb hby at_70) rfl kt_) ?_
      refine own_by (T' := T15) (g' := (mkF m 73 #[.val (.int p0), .val (.int p1), .val (.int p2), .val (.int p3), .val (.int p4), .val (.int (posF p0)), .val (.int (posF p1)), .val (.int x2), .val (.int y2), .val (.int (((p4.toUInt32 >>> ((2 : Int32) &&& 31).toUInt32).toInt32) &&& (7 : Int32))), .val (.ref b9), .unset, .unset, .unset, .unset, .unset, .unset] [(.int (1 : Int32)), (.int (((p4.toUInt32 >>> ((2 : Int32) &&& 31).toUInt32).toInt32) &&& (7 : Int32)))])) (fun _ kt_ => XS.iconst X15.here hx rfl (hb hby at_72) kt_) ?_
      by_cases hc19 : (((p4.toUInt32 >>> ((2 : Int32) &&& 31).toUInt32).toInt32) &&& (7 : Int32)) = (1 : Int32)
      · refine own_by (T' := T15) (g' := (mkF m 76 #[.val (.int p0), .val (.int p1), .val (.int p2), .val (.int p3), .val (.int p4), .val (.int (posF p0)), .val (.int (posF p1)), .val (.int x2), .val (.int y2), .val (.int (((p4.toUInt32 >>> ((2 : Int32) &&& 31).toUInt32).toInt32) &&& (7 : Int32))), .val (.ref b9), .unset, .unset, .unset, .unset, .unset, .unset] [])) (fun _ kt_ => XS.icmpNo X15.here hx rfl (hb hby at_73) rfl (XT.ii_ne_f hc19) kt_) ?_
        refine own_by (T' := T15) (g' := (mkF m 78 #[.val (.int p0), .val (.int p1), .val (.int p2), .val (.int p3), .val (.int p4), .val (.int (posF p0)), .val (.int (posF p1)), .val (.int x2), .val (.int y2), .val (.int (((p4.toUInt32 >>> ((2 : Int32) &&& 31).toUInt32).toInt32) &&& (7 : Int32))), .val (.ref b9), .unset, .unset, .unset, .unset, .unset, .unset] [(.ref b9)])) (fun _ kt_ => XS.aload X15.here hx rfl (hb hby at_76) rfl rfl kt_) ?_
        refine own_by (T' := T15) (g' := (mkF m 79 #[.val (.int p0), .val (.int p1), .val (.int p2), .val (.int p3), .val (.int p4), .val (.int (posF p0)), .val (.int (posF p1)), .val (.int x2), .val (.int y2), .val (.int (((p4.toUInt32 >>> ((2 : Int32) &&& 31).toUInt32).toInt32) &&& (7 : Int32))), .val (.ref b9), .unset, .unset, .unset, .unset, .unset, .unset] [.null, (.ref b9)])) (fun _ kt_ => XS.aconstNull X15.here hx rfl (hb hby at_78) kt_) ?_
        have f21 : Exa Z T15.heap b9 "com/example/even_commute/evencommute/comparison/LinkEnds" := (A9.keep K15)
        obtain ⟨cq20, kq20, q20a, q20b, q20c⟩ := isOf hZ rfl f21
        obtain ⟨_, _, ⟨T20, L20, k20, n20⟩, -, X20, ⟨Lc20, hQ20, l20, y20, z20⟩, st20⟩ := X15.virtualBack hx (y := (⟨"com/example/even_commute/evencommute/comparison/LinkEnds", "equals", "(Ljava/lang/Object;)Z"⟩ : MethodName)) (z := (⟨"com/example/even_commute/evencommute/comparison/LinkEnds", "equals", "(Ljava/lang/Object;)Z"⟩ : MethodName)) hown (mvT hZ (hw _ (List.mem_of_getElem? (i := 18) rfl))) (mvT hZ (hw _ (List.mem_of_getElem? (i := 19) rfl))) (notFace_of_selects (args := #[]) (mvT hZ (hw _ (List.mem_of_getElem? (i := 21) rfl)))) (mvT hZ (hw _ (List.mem_of_getElem? (i := 21) rfl))) (mvT hZ (hw _ (List.mem_of_getElem? (i := 20) rfl))) (by decide) (backOf (W := 0) (rmEqN l Z a0 hw [] wC cC GS b9 T15.heap n0 (by omega) oo17 ) hZ (hw _ (List.mem_of_getElem? (i := 22) rfl)) (hw _ (List.mem_of_getElem? (i := 7) rfl)) (by decide) (by decide)) q20a q20c (g := (mkF m 79 #[.val (.int p0), .val (.int p1), .val (.int p2), .val (.int p3), .val (.int p4), .val (.int (posF p0)), .val (.int (posF p1)), .val (.int x2), .val (.int y2), .val (.int (((p4.toUInt32 >>> ((2 : Int32) &&& 31).toUInt32).toInt32) &&& (7 : Int32))), .val (.ref b9), .unset, .unset, .unset, .unset, .unset, .unset] [.null, (.ref b9)])) rfl (by rw [hml]; rfl) (Steps.refl _) (argsL := [.null]) (rest := []) (lenOf own_pd_4 rfl) rfl (by show 2 * 0 + _ ≤ _; exact Nat.le_of_eq rfl) (hb hby at_79) (fun _ _ => ⟨rfl, rfl, (by decide : 1 + 0 ≤ _), (by decide : 2 + 0 ≤ _)⟩)
        dsimp only [Pt.U, Pt.locs, Pt.cells, Pt.slots] at X20 l20 y20 z20 st20 hQ20
        subst l20 y20 z20
        obtain ⟨rfl, N20q, e20⟩ := hQ20
        have N22 := Fr.app N16 N20q
        refine own_by (T' := T20) (g' := (mkF m 82 #[.val (.int p0), .val (.int p1), .val (.int p2), .val (.int p3), .val (.int p4), .val (.int (posF p0)), .val (.int (posF p1)), .val (.int x2), .val (.int y2), .val (.int (((p4.toUInt32 >>> ((2 : Int32) &&& 31).toUInt32).toInt32) &&& (7 : Int32))), .val (.ref b9), .unset, .unset, .unset, .unset, .unset, .unset] [(.int (0 : Int32))])) (fun _ kt_ => st20.trans kt_) ?_
        refine own_by (T' := T20) (g' := (mkF m 85 #[.val (.int p0), .val (.int p1), .val (.int p2), .val (.int p3), .val (.int p4), .val (.int (posF p0)), .val (.int (posF p1)), .val (.int x2), .val (.int y2), .val (.int (((p4.toUInt32 >>> ((2 : Int32) &&& 31).toUInt32).toInt32) &&& (7 : Int32))), .val (.ref b9), .unset, .unset, .unset, .unset, .unset, .unset] [])) (fun _ kt_ => XS.ifNo X20.here hx rfl (hb hby at_82) rfl (XT.i0_ne_f (by decide)) kt_) ?_
        refine own_by (T' := T20) (g' := (mkF m 86 #[.val (.int p0), .val (.int p1), .val (.int p2), .val (.int p3), .val (.int p4), .val (.int (posF p0)), .val (.int (posF p1)), .val (.int x2), .val (.int y2), .val (.int (((p4.toUInt32 >>> ((2 : Int32) &&& 31).toUInt32).toInt32) &&& (7 : Int32))), .val (.ref b9), .unset, .unset, .unset, .unset, .unset, .unset] [(.int (1 : Int32))])) (fun _ kt_ => XS.iconst X20.here hx rfl (hb hby at_85) kt_) ?_
        refine own_by (T' := T20) (g' := (mkF m 90 #[.val (.int p0), .val (.int p1), .val (.int p2), .val (.int p3), .val (.int p4), .val (.int (posF p0)), .val (.int (posF p1)), .val (.int x2), .val (.int y2), .val (.int (((p4.toUInt32 >>> ((2 : Int32) &&& 31).toUInt32).toInt32) &&& (7 : Int32))), .val (.ref b9), .unset, .unset, .unset, .unset, .unset, .unset] [(.int (1 : Int32))])) (fun _ kt_ => XS.goto X20.here hx rfl (pc0 := 86) (pc' := 90) rfl (hb hby at_86) (by decide) (by decide) kt_) ?_
        have hn23 : nar .boolean (1 : Int32) = (1 : Int32) := rfl
        obtain ⟨fs24, hr24, hrun24, hended24, hW24, hsame24⟩ := X20.leave (v := some (.int (nar .boolean (1 : Int32)))) (fun h => by rw [Bd.returns] at h; cases h)
        refine ⟨_, _, retN X20 hx (t := .boolean) Bd.returns (by simp) (hb hby at_90) hr24, hrun24, hended24, _, _, rfl, ?_, ⟨_, rfl⟩, hW24, hsame24.mono (by decide) (by decide)⟩
        show Q_rm0 Z wC cC p0 p1 p2 p3 p4 h0 n0 _ T20.heap _
        exact ⟨(congrArg (fun z => some (Value.int z)) hn23), N22⟩
      · refine own_by (T' := T15) (g' := (mkF m 91 #[.val (.int p0), .val (.int p1), .val (.int p2), .val (.int p3), .val (.int p4), .val (.int (posF p0)), .val (.int (posF p1)), .val (.int x2), .val (.int y2), .val (.int (((p4.toUInt32 >>> ((2 : Int32) &&& 31).toUInt32).toInt32) &&& (7 : Int32))), .val (.ref b9), .unset, .unset, .unset, .unset, .unset, .unset] [])) (fun _ kt_ => XS.icmpYes X15.here hx rfl (pc0 := 73) (pc' := 91) rfl (hb hby at_73) rfl (XT.ii_ne_t hc19) (by decide) (by decide) kt_) ?_
        refine own_by (T' := T15) (g' := (mkF m 93 #[.val (.int p0), .val (.int p1), .val (.int p2), .val (.int p3), .val (.int p4), .val (.int (posF p0)), .val (.int (posF p1)), .val (.int x2), .val (.int y2), .val (.int (((p4.toUInt32 >>> ((2 : Int32) &&& 31).toUInt32).toInt32) &&& (7 : Int32))), .val (.ref b9), .unset, .unset, .unset, .unset, .unset, .unset] [(.int (((p4.toUInt32 >>> ((2 : Int32) &&& 31).toUInt32).toInt32) &&& (7 : Int32)))])) (fun _ kt_ => XS.iload X15.here hx rfl (hb hby at_91) rfl kt_) ?_
        refine own_by (T' := T15) (g' := (mkF m 94 #[.val (.int p0), .val (.int p1), .val (.int p2), .val (.int p3), .val (.int p4), .val (.int (posF p0)), .val (.int (posF p1)), .val (.int x2), .val (.int y2), .val (.int (((p4.toUInt32 >>> ((2 : Int32) &&& 31).toUInt32).toInt32) &&& (7 : Int32))), .val (.ref b9), .unset, .unset, .unset, .unset, .unset, .unset] [(.int (2 : Int32)), (.int (((p4.toUInt32 >>> ((2 : Int32) &&& 31).toUInt32).toInt32) &&& (7 : Int32)))])) (fun _ kt_ => XS.iconst X15.here hx rfl (hb hby at_93) kt_) ?_
        by_cases hc25 : (((p4.toUInt32 >>> ((2 : Int32) &&& 31).toUInt32).toInt32) &&& (7 : Int32)) = (2 : Int32)
        · refine own_by (T' := T15) (g' := (mkF m 97 #[.val (.int p0), .val (.int p1), .val (.int p2), .val (.int p3), .val (.int p4), .val (.int (posF p0)), .val (.int (posF p1)), .val (.int x2), .val (.int y2), .val (.int (((p4.toUInt32 >>> ((2 : Int32) &&& 31).toUInt32).toInt32) &&& (7 : Int32))), .val (.ref b9), .unset, .unset, .unset, .unset, .unset, .unset] [])) (fun _ kt_ => XS.icmpNo X15.here hx rfl (hb hby at_94) rfl (XT.ii_ne_f hc25) kt_) ?_
          refine own_by (T' := T15) (g' := (mkF m 99 #[.val (.int p0), .val (.int p1), .val (.int p2), .val (.int p3), .val (.int p4), .val (.int (posF p0)), .val (.int (posF p1)), .val (.int x2), .val (.int y2), .val (.int (((p4.toUInt32 >>> ((2 : Int32) &&& 31).toUInt32).toInt32) &&& (7 : Int32))), .val (.ref b9), .unset, .unset, .unset, .unset, .unset, .unset] [(.int (posF p0))])) (fun _ kt_ => XS.iload X15.here hx rfl (hb hby at_97) rfl kt_) ?_
          obtain ⟨_, _, ⟨T26, L26, k26, n26⟩, -, X26, ⟨Lc26, hQ26, l26, y26, z26⟩, st26⟩ := Jvm.LawKit.callS X15 hx (y := (⟨"java/lang/Integer", "valueOf", "(I)Ljava/lang/Integer;"⟩ : MethodName)) hown (mvT hZ (hw _ (List.mem_of_getElem? (i := 25) rfl))) (mvT hZ (hw _ (List.mem_of_getElem? (i := 26) rfl))) (mvT hZ (hw _ (List.mem_of_getElem? (i := 27) rfl))) (mvT hZ (hw _ (List.mem_of_getElem? (i := 28) rfl))) (by decide) (backOf (W := 0) (rmValI l Z a0 hw [] wC cC GS (posF p0) T15.heap n0 (by omega) oo17 ) hZ (hw _ (List.mem_of_getElem? (i := 28) rfl)) (hw _ (List.mem_of_getElem? (i := 27) rfl)) (by decide) (by decide)) (g := (mkF m 99 #[.val (.int p0), .val (.int p1), .val (.int p2), .val (.int p3), .val (.int p4), .val (.int (posF p0)), .val (.int (posF p1)), .val (.int x2), .val (.int y2), .val (.int (((p4.toUInt32 >>> ((2 : Int32) &&& 31).toUInt32).toInt32) &&& (7 : Int32))), .val (.ref b9), .unset, .unset, .unset, .unset, .unset, .unset] [(.int (posF p0))])) rfl (by rw [hml]; rfl) (argsL := [(.int (posF p0))]) (rest := []) (lenOf own_pd_5 rfl) rfl (by show 2 * 0 + _ ≤ _; exact Nat.le_of_eq rfl) (hb hby at_99) (fun _ _ => ⟨rfl, rfl, (by decide : 1 + 1 ≤ _), (by decide : 2 + 1 ≤ _)⟩)
          dsimp only [Pt.U, Pt.locs, Pt.cells, Pt.slots] at X26 l26 y26 z26 st26 hQ26
          subst l26 y26 z26
          obtain ⟨b_27, rfl, N26q, K26, p26_0, p26_1⟩ := hQ26
          have N28 := Fr.app N16 N26q
          have zzK26 : T15.heap.size ≤ T26.heap.size := K26.1
          have oo29 : Old Z n0 T26.heap := oo17.keep K26 all0
          have kt30 : Keep h0 T26.heap [] := kt18.trans K26 all0
          refine own_by (T' := T26) (g' := (mkF m 102 #[.val (.int p0), .val (.int p1), .val (.int p2), .val (.int p3), .val (.int p4), .val (.int (posF p0)), .val (.int (posF p1)), .val (.int x2), .val (.int y2), .val (.int (((p4.toUInt32 >>> ((2 : Int32) &&& 31).toUInt32).toInt32) &&& (7 : Int32))), .val (.ref b9), .unset, .unset, .unset, .unset, .unset, .unset] [(.ref b_27)])) st26 ?_
          refine own_by (T' := T26) (g' := (mkF m 104 #[.val (.int p0), .val (.int p1), .val (.int p2), .val (.int p3), .val (.int p4), .val (.int (posF p0)), .val (.int (posF p1)), .val (.int x2), .val (.int y2), .val (.int (((p4.toUInt32 >>> ((2 : Int32) &&& 31).toUInt32).toInt32) &&& (7 : Int32))), .val (.ref b9), .val (.ref b_27), .unset, .unset, .unset, .unset, .unset] [])) (fun _ kt_ => XS.astore X26.here hx rfl (hb hby at_102) rfl rfl (l' := #[.val (.int p0), .val (.int p1), .val (.int p2), .val (.int p3), .val (.int p4), .val (.int (posF p0)), .val (.int (posF p1)), .val (.int x2), .val (.int y2), .val (.int (((p4.toUInt32 >>> ((2 : Int32) &&& 31).toUInt32).toInt32) &&& (7 : Int32))), .val (.ref b9), .val (.ref b_27), .unset, .unset, .unset, .unset, .unset]) rfl kt_) ?_
          refine own_by (T' := T26) (g' := (mkF m 106 #[.val (.int p0), .val (.int p1), .val (.int p2), .val (.int p3), .val (.int p4), .val (.int (posF p0)), .val (.int (posF p1)), .val (.int x2), .val (.int y2), .val (.int (((p4.toUInt32 >>> ((2 : Int32) &&& 31).toUInt32).toInt32) &&& (7 : Int32))), .val (.ref b9), .val (.ref b_27), .unset, .unset, .unset, .unset, .unset] [(.ref b9)])) (fun _ kt_ => XS.aload X26.here hx rfl (hb hby at_104) rfl rfl kt_) ?_
          refine own_by (T' := T26) (g' := (mkF m 108 #[.val (.int p0), .val (.int p1), .val (.int p2), .val (.int p3), .val (.int p4), .val (.int (posF p0)), .val (.int (posF p1)), .val (.int x2), .val (.int y2), .val (.int (((p4.toUInt32 >>> ((2 : Int32) &&& 31).toUInt32).toInt32) &&& (7 : Int32))), .val (.ref b9), .val (.ref b_27), .unset, .unset, .unset, .unset, .unset] [(.ref b_27), (.ref b9)])) (fun _ kt_ => XS.aload X26.here hx rfl (hb hby at_106) rfl rfl kt_) ?_
          have f32 : Exa Z T26.heap b9 "com/example/even_commute/evencommute/comparison/LinkEnds" := ((A9.keep K15).keep K26)
          obtain ⟨cq31, kq31, q31a, q31b, q31c⟩ := isOf hZ rfl f32
          obtain ⟨_, _, ⟨T31, L31, k31, n31⟩, -, X31, ⟨Lc31, hQ31, l31, y31, z31⟩, st31⟩ := X26.virtualBack hx (y := (⟨"com/example/even_commute/evencommute/comparison/LinkEnds", "equals", "(Ljava/lang/Object;)Z"⟩ : MethodName)) (z := (⟨"com/example/even_commute/evencommute/comparison/LinkEnds", "equals", "(Ljava/lang/Object;)Z"⟩ : MethodName)) hown (mvT hZ (hw _ (List.mem_of_getElem? (i := 18) rfl))) (mvT hZ (hw _ (List.mem_of_getElem? (i := 19) rfl))) (notFace_of_selects (args := #[]) (mvT hZ (hw _ (List.mem_of_getElem? (i := 21) rfl)))) (mvT hZ (hw _ (List.mem_of_getElem? (i := 21) rfl))) (mvT hZ (hw _ (List.mem_of_getElem? (i := 20) rfl))) (by decide) (backOf (W := 0) (rmEqI l Z a0 hw [] wC cC GS b9 b_27 T26.heap n0 (by omega) oo29 p26_0) hZ (hw _ (List.mem_of_getElem? (i := 22) rfl)) (hw _ (List.mem_of_getElem? (i := 7) rfl)) (by decide) (by decide)) q31a q31c (g := (mkF m 108 #[.val (.int p0), .val (.int p1), .val (.int p2), .val (.int p3), .val (.int p4), .val (.int (posF p0)), .val (.int (posF p1)), .val (.int x2), .val (.int y2), .val (.int (((p4.toUInt32 >>> ((2 : Int32) &&& 31).toUInt32).toInt32) &&& (7 : Int32))), .val (.ref b9), .val (.ref b_27), .unset, .unset, .unset, .unset, .unset] [(.ref b_27), (.ref b9)])) rfl (by rw [hml]; rfl) (Steps.refl _) (argsL := [(.ref b_27)]) (rest := []) (lenOf own_pd_4 rfl) rfl (by show 2 * 0 + _ ≤ _; exact Nat.le_of_eq rfl) (hb hby at_108) (fun _ _ => ⟨rfl, rfl, (by decide : 2 + 0 ≤ _), (by decide : 3 + 0 ≤ _)⟩)
          dsimp only [Pt.U, Pt.locs, Pt.cells, Pt.slots] at X31 l31 y31 z31 st31 hQ31
          subst l31 y31 z31
          obtain ⟨rfl, N31q, e31⟩ := hQ31
          have N33 := Fr.app N28 N31q
          refine own_by (T' := T31) (g' := (mkF m 111 #[.val (.int p0), .val (.int p1), .val (.int p2), .val (.int p3), .val (.int p4), .val (.int (posF p0)), .val (.int (posF p1)), .val (.int x2), .val (.int y2), .val (.int (((p4.toUInt32 >>> ((2 : Int32) &&& 31).toUInt32).toInt32) &&& (7 : Int32))), .val (.ref b9), .val (.ref b_27), .unset, .unset, .unset, .unset, .unset] [(.int (0 : Int32))])) (fun _ kt_ => st31.trans kt_) ?_
          refine own_by (T' := T31) (g' := (mkF m 114 #[.val (.int p0), .val (.int p1), .val (.int p2), .val (.int p3), .val (.int p4), .val (.int (posF p0)), .val (.int (posF p1)), .val (.int x2), .val (.int y2), .val (.int (((p4.toUInt32 >>> ((2 : Int32) &&& 31).toUInt32).toInt32) &&& (7 : Int32))), .val (.ref b9), .val (.ref b_27), .unset, .unset, .unset, .unset, .unset] [])) (fun _ kt_ => XS.ifNo X31.here hx rfl (hb hby at_111) rfl (XT.i0_ne_f (by decide)) kt_) ?_
          refine own_by (T' := T31) (g' := (mkF m 115 #[.val (.int p0), .val (.int p1), .val (.int p2), .val (.int p3), .val (.int p4), .val (.int (posF p0)), .val (.int (posF p1)), .val (.int x2), .val (.int y2), .val (.int (((p4.toUInt32 >>> ((2 : Int32) &&& 31).toUInt32).toInt32) &&& (7 : Int32))), .val (.ref b9), .val (.ref b_27), .unset, .unset, .unset, .unset, .unset] [(.int (1 : Int32))])) (fun _ kt_ => XS.iconst X31.here hx rfl (hb hby at_114) kt_) ?_
          refine own_by (T' := T31) (g' := (mkF m 119 #[.val (.int p0), .val (.int p1), .val (.int p2), .val (.int p3), .val (.int p4), .val (.int (posF p0)), .val (.int (posF p1)), .val (.int x2), .val (.int y2), .val (.int (((p4.toUInt32 >>> ((2 : Int32) &&& 31).toUInt32).toInt32) &&& (7 : Int32))), .val (.ref b9), .val (.ref b_27), .unset, .unset, .unset, .unset, .unset] [(.int (1 : Int32))])) (fun _ kt_ => XS.goto X31.here hx rfl (pc0 := 115) (pc' := 119) rfl (hb hby at_115) (by decide) (by decide) kt_) ?_
          have hn34 : nar .boolean (1 : Int32) = (1 : Int32) := rfl
          obtain ⟨fs35, hr35, hrun35, hended35, hW35, hsame35⟩ := X31.leave (v := some (.int (nar .boolean (1 : Int32)))) (fun h => by rw [Bd.returns] at h; cases h)
          refine ⟨_, _, retN X31 hx (t := .boolean) Bd.returns (by simp) (hb hby at_119) hr35, hrun35, hended35, _, _, rfl, ?_, ⟨_, rfl⟩, hW35, hsame35.mono (by decide) (by decide)⟩
          show Q_rm0 Z wC cC p0 p1 p2 p3 p4 h0 n0 _ T31.heap _
          exact ⟨(congrArg (fun z => some (Value.int z)) hn34), N33⟩
        · refine own_by (T' := T15) (g' := (mkF m 120 #[.val (.int p0), .val (.int p1), .val (.int p2), .val (.int p3), .val (.int p4), .val (.int (posF p0)), .val (.int (posF p1)), .val (.int x2), .val (.int y2), .val (.int (((p4.toUInt32 >>> ((2 : Int32) &&& 31).toUInt32).toInt32) &&& (7 : Int32))), .val (.ref b9), .unset, .unset, .unset, .unset, .unset, .unset] [])) (fun _ kt_ => XS.icmpYes X15.here hx rfl (pc0 := 94) (pc' := 120) rfl (hb hby at_94) rfl (XT.ii_ne_t hc25) (by decide) (by decide) kt_) ?_
          refine own_by (T' := T15) (g' := (mkF m 122 #[.val (.int p0), .val (.int p1), .val (.int p2), .val (.int p3), .val (.int p4), .val (.int (posF p0)), .val (.int (posF p1)), .val (.int x2), .val (.int y2), .val (.int (((p4.toUInt32 >>> ((2 : Int32) &&& 31).toUInt32).toInt32) &&& (7 : Int32))), .val (.ref b9), .unset, .unset, .unset, .unset, .unset, .unset] [(.int (((p4.toUInt32 >>> ((2 : Int32) &&& 31).toUInt32).toInt32) &&& (7 : Int32)))])) (fun _ kt_ => XS.iload X15.here hx rfl (hb hby at_120) rfl kt_) ?_
          refine own_by (T' := T15) (g' := (mkF m 123 #[.val (.int p0), .val (.int p1), .val (.int p2), .val (.int p3), .val (.int p4), .val (.int (posF p0)), .val (.int (posF p1)), .val (.int x2), .val (.int y2), .val (.int (((p4.toUInt32 >>> ((2 : Int32) &&& 31).toUInt32).toInt32) &&& (7 : Int32))), .val (.ref b9), .unset, .unset, .unset, .unset, .unset, .unset] [(.int (3 : Int32)), (.int (((p4.toUInt32 >>> ((2 : Int32) &&& 31).toUInt32).toInt32) &&& (7 : Int32)))])) (fun _ kt_ => XS.iconst X15.here hx rfl (hb hby at_122) kt_) ?_
          by_cases hc36 : (((p4.toUInt32 >>> ((2 : Int32) &&& 31).toUInt32).toInt32) &&& (7 : Int32)) = (3 : Int32)
          · refine own_by (T' := T15) (g' := (mkF m 126 #[.val (.int p0), .val (.int p1), .val (.int p2), .val (.int p3), .val (.int p4), .val (.int (posF p0)), .val (.int (posF p1)), .val (.int x2), .val (.int y2), .val (.int (((p4.toUInt32 >>> ((2 : Int32) &&& 31).toUInt32).toInt32) &&& (7 : Int32))), .val (.ref b9), .unset, .unset, .unset, .unset, .unset, .unset] [])) (fun _ kt_ => XS.icmpNo X15.here hx rfl (hb hby at_123) rfl (XT.ii_ne_f hc36) kt_) ?_
            refine own_by (T' := T15) (g' := (mkF m 128 #[.val (.int p0), .val (.int p1), .val (.int p2), .val (.int p3), .val (.int p4), .val (.int (posF p0)), .val (.int (posF p1)), .val (.int x2), .val (.int y2), .val (.int (((p4.toUInt32 >>> ((2 : Int32) &&& 31).toUInt32).toInt32) &&& (7 : Int32))), .val (.ref b9), .unset, .unset, .unset, .unset, .unset, .unset] [(.ref b9)])) (fun _ kt_ => XS.aload X15.here hx rfl (hb hby at_126) rfl rfl kt_) ?_
            refine own_by (T' := T15) (g' := (mkF m 130 #[.val (.int p0), .val (.int p1), .val (.int p2), .val (.int p3), .val (.int p4), .val (.int (posF p0)), .val (.int (posF p1)), .val (.int x2), .val (.int y2), .val (.int (((p4.toUInt32 >>> ((2 : Int32) &&& 31).toUInt32).toInt32) &&& (7 : Int32))), .val (.ref b9), .unset, .unset, .unset, .unset, .unset, .unset] [(.ref b9), (.ref b9)])) (fun _ kt_ => XS.aload X15.here hx rfl (hb hby at_128) rfl rfl kt_) ?_
            have f37 : Exa Z T15.heap b9 "com/example/even_commute/evencommute/comparison/LinkEnds" := (A9.keep K15)
            obtain ⟨cq38, kq38, q38a, q38b, q38c⟩ := isOf hZ rfl f37
            obtain ⟨_, _, ⟨T38, L38, k38, n38⟩, -, X38, ⟨Lc38, hQ38, l38, y38, z38⟩, st38⟩ := X15.virtualBack hx (y := (⟨"com/example/even_commute/evencommute/comparison/LinkEnds", "equals", "(Ljava/lang/Object;)Z"⟩ : MethodName)) (z := (⟨"com/example/even_commute/evencommute/comparison/LinkEnds", "equals", "(Ljava/lang/Object;)Z"⟩ : MethodName)) hown (mvT hZ (hw _ (List.mem_of_getElem? (i := 18) rfl))) (mvT hZ (hw _ (List.mem_of_getElem? (i := 19) rfl))) (notFace_of_selects (args := #[]) (mvT hZ (hw _ (List.mem_of_getElem? (i := 21) rfl)))) (mvT hZ (hw _ (List.mem_of_getElem? (i := 21) rfl))) (mvT hZ (hw _ (List.mem_of_getElem? (i := 20) rfl))) (by decide) (backOf (W := 0) (rmEq l Z a0 hw [] wC cC GS b9 b9 (posF p0) (posF p1) (posF p0) (posF p1) T15.heap n0 (by omega) oo17 f37 p15_0 p15_1 p15_0 p15_1) hZ (hw _ (List.mem_of_getElem? (i := 22) rfl)) (hw _ (List.mem_of_getElem? (i := 7) rfl)) (by decide) (by decide)) q38a q38c (g := (mkF m 130 #[.val (.int p0), .val (.int p1), .val (.int p2), .val (.int p3), .val (.int p4), .val (.int (posF p0)), .val (.int (posF p1)), .val (.int x2), .val (.int y2), .val (.int (((p4.toUInt32 >>> ((2 : Int32) &&& 31).toUInt32).toInt32) &&& (7 : Int32))), .val (.ref b9), .unset, .unset, .unset, .unset, .unset, .unset] [(.ref b9), (.ref b9)])) rfl (by rw [hml]; rfl) (Steps.refl _) (argsL := [(.ref b9)]) (rest := []) (lenOf own_pd_4 rfl) rfl (by show 2 * 0 + _ ≤ _; exact Nat.le_of_eq rfl) (hb hby at_130) (fun _ _ => ⟨rfl, rfl, (by decide : 1 + 0 ≤ _), (by decide : 2 + 0 ≤ _)⟩)
            dsimp only [Pt.U, Pt.locs, Pt.cells, Pt.slots] at X38 l38 y38 z38 st38 hQ38
            subst l38 y38 z38
            obtain ⟨rfl, N38q, e38⟩ := hQ38
            have N39 := Fr.app N16 N38q
            refine own_by (T' := T38) (g' := (mkF m 133 #[.val (.int p0), .val (.int p1), .val (.int p2), .val (.int p3), .val (.int p4), .val (.int (posF p0)), .val (.int (posF p1)), .val (.int x2), .val (.int y2), .val (.int (((p4.toUInt32 >>> ((2 : Int32) &&& 31).toUInt32).toInt32) &&& (7 : Int32))), .val (.ref b9), .unset, .unset, .unset, .unset, .unset, .unset] [(.int (if (posF p0) = (posF p0) then (if (posF p1) = (posF p1) then (1 : Int32) else (0 : Int32)) else (0 : Int32)))])) (fun _ kt_ => st38.trans kt_) ?_
            have hn40 : nar .boolean (if (posF p0) = (posF p0) then (if (posF p1) = (posF p1) then (1 : Int32) else (0 : Int32)) else (0 : Int32)) = (if (posF p0) = (posF p0) then (if (posF p1) = (posF p1) then (1 : Int32) else (0 : Int32)) else (0 : Int32)) := (by first | rfl | (split <;> rfl) | (split <;> (first | rfl | (split <;> rfl))))
            have hr41 : (if (posF p0) = (posF p0) then (if (posF p1) = (posF p1) then (1 : Int32) else (0 : Int32)) else (0 : Int32)) = (1 : Int32) := by simp
            obtain ⟨fs42, hr42, hrun42, hended42, hW42, hsame42⟩ := X38.leave (v := some (.int (nar .boolean (if (posF p0) = (posF p0) then (if (posF p1) = (posF p1) then (1 : Int32) else (0 : Int32)) else (0 : Int32))))) (fun h => by rw [Bd.returns] at h; cases h)
            refine ⟨_, _, retN X38 hx (t := .boolean) Bd.returns (by simp) (hb hby at_133) hr42, hrun42, hended42, _, _, rfl, ?_, ⟨_, rfl⟩, hW42, hsame42.mono (by decide) (by decide)⟩
            show Q_rm0 Z wC cC p0 p1 p2 p3 p4 h0 n0 _ T38.heap _
            exact ⟨(congrArg (fun z => some (Value.int z)) (hn40.trans hr41)), N39⟩
          · refine own_by (T' := T15) (g' := (mkF m 134 #[.val (.int p0), .val (.int p1), .val (.int p2), .val (.int p3), .val (.int p4), .val (.int (posF p0)), .val (.int (posF p1)), .val (.int x2), .val (.int y2), .val (.int (((p4.toUInt32 >>> ((2 : Int32) &&& 31).toUInt32).toInt32) &&& (7 : Int32))), .val (.ref b9), .unset, .unset, .unset, .unset, .unset, .unset] [])) (fun _ kt_ => XS.icmpYes X15.here hx rfl (pc0 := 123) (pc' := 134) rfl (hb hby at_123) rfl (XT.ii_ne_t hc36) (by decide) (by decide) kt_) ?_
            refine own_by (T' := T15) (g' := (mkF m 136 #[.val (.int p0), .val (.int p1), .val (.int p2), .val (.int p3), .val (.int p4), .val (.int (posF p0)), .val (.int (posF p1)), .val (.int x2), .val (.int y2), .val (.int (((p4.toUInt32 >>> ((2 : Int32) &&& 31).toUInt32).toInt32) &&& (7 : Int32))), .val (.ref b9), .unset, .unset, .unset, .unset, .unset, .unset] [(.int x2)])) (fun _ kt_ => XS.iload X15.here hx rfl (hb hby at_134) rfl kt_) ?_
            refine own_by (T' := T15) (g' := (mkF m 138 #[.val (.int p0), .val (.int p1), .val (.int p2), .val (.int p3), .val (.int p4), .val (.int (posF p0)), .val (.int (posF p1)), .val (.int x2), .val (.int y2), .val (.int (((p4.toUInt32 >>> ((2 : Int32) &&& 31).toUInt32).toInt32) &&& (7 : Int32))), .val (.ref b9), .val (.int x2), .unset, .unset, .unset, .unset, .unset] [])) (fun _ kt_ => XS.istore X15.here hx rfl (hb hby at_136) rfl (l' := #[.val (.int p0), .val (.int p1), .val (.int p2), .val (.int p3), .val (.int p4), .val (.int (posF p0)), .val (.int (posF p1)), .val (.int x2), .val (.int y2), .val (.int (((p4.toUInt32 >>> ((2 : Int32) &&& 31).toUInt32).toInt32) &&& (7 : Int32))), .val (.ref b9), .val (.int x2), .unset, .unset, .unset, .unset, .unset]) rfl kt_) ?_
            refine own_by (T' := T15) (g' := (mkF m 140 #[.val (.int p0), .val (.int p1), .val (.int p2), .val (.int p3), .val (.int p4), .val (.int (posF p0)), .val (.int (posF p1)), .val (.int x2), .val (.int y2), .val (.int (((p4.toUInt32 >>> ((2 : Int32) &&& 31).toUInt32).toInt32) &&& (7 : Int32))), .val (.ref b9), .val (.int x2), .unset, .unset, .unset, .unset, .unset] [(.int y2)])) (fun _ kt_ => XS.iload X15.here hx rfl (hb hby at_138) rfl kt_) ?_
            refine own_by (T' := T15) (g' := (mkF m 142 #[.val (.int p0), .val (.int p1), .val (.int p2), .val (.int p3), .val (.int p4), .val (.int (posF p0)), .val (.int (posF p1)), .val (.int x2), .val (.int y2), .val (.int (((p4.toUInt32 >>> ((2 : Int32) &&& 31).toUInt32).toInt32) &&& (7 : Int32))), .val (.ref b9), .val (.int x2), .val (.int y2), .unset, .unset, .unset, .unset] [])) (fun _ kt_ => XS.istore X15.here hx rfl (hb hby at_140) rfl (l' := #[.val (.int p0), .val (.int p1), .val (.int p2), .val (.int p3), .val (.int p4), .val (.int (posF p0)), .val (.int (posF p1)), .val (.int x2), .val (.int y2), .val (.int (((p4.toUInt32 >>> ((2 : Int32) &&& 31).toUInt32).toInt32) &&& (7 : Int32))), .val (.ref b9), .val (.int x2), .val (.int y2), .unset, .unset, .unset, .unset]) rfl kt_) ?_
            have J43 : ∀ (T43 : State) (lo43 : List Loc) (X43 : Stand p l e room_1 s m #[(.int p0), (.int p1), (.int p2), (.int p3), (.int p4)] below meth c T43 lo43 1 2) (e43 : T43.heap = T15.heap) (N43 : Fr n0 lo43) (x3 : Int32) (y3 : Int32), ¬ x3 < (1 : Int32) ∧ ¬ y3 < (1 : Int32) → OGoal p e below (fun oo_ UV_ => ∃ vv_ LL_, oo_ = .returned vv_ ∧ Q_rm0 Z wC cC p0 p1 p2 p3 p4 h0 n0 vv_ UV_.heap LL_ ∧ FrameEnd s oo_ UV_ LL_ 2 4) T43 (mkF m 156 #[.val (.int p0), .val (.int p1), .val (.int p2), .val (.int p3), .val (.int p4), .val (.int (posF p0)), .val (.int (posF p1)), .val (.int x2), .val (.int y2), .val (.int (((p4.toUInt32 >>> ((2 : Int32) &&& 31).toUInt32).toInt32) &&& (7 : Int32))), .val (.ref b9), .val (.int x3), .val (.int y3), .unset, .unset, .unset, .unset] []) := by
              intro T43 lo43 X43 e43 N43 x3 y3  hj44
              obtain ⟨T45, h45, X45, e45, E45, A45, D45, -, st45⟩ := newO X43 hx hZ hown (hw _ (List.mem_of_getElem? (i := 5) rfl)) (hw _ (List.mem_of_getElem? (i := 6) rfl)) (hw _ (List.mem_of_getElem? (i := 7) rfl)) e43 (g := (mkF m 156 #[.val (.int p0), .val (.int p1), .val (.int p2), .val (.int p3), .val (.int p4), .val (.int (posF p0)), .val (.int (posF p1)), .val (.int x2), .val (.int y2), .val (.int (((p4.toUInt32 >>> ((2 : Int32) &&& 31).toUInt32).toInt32) &&& (7 : Int32))), .val (.ref b9), .val (.int x3), .val (.int y3), .unset, .unset, .unset, .unset] [])) rfl (hb hby at_156) (by decide) (by decide)
              obtain ⟨b45, g45⟩ : ∃ z, z = T15.heap.size := ⟨_, rfl⟩
              rw [← g45] at A45 D45 st45
              have K46 : Keep T15.heap h45 [] := own_kext E45
              have zzK46 : T15.heap.size ≤ h45.size := K46.1
              have oo47 : Old Z n0 h45 := oo17.keep K46 all0
              have kt48 : Keep h0 h45 [] := kt18.trans K46 all0
              have lab45 : b45 < h45.size := A45.lt
              have f49 : Fld Z h45 b45 "com/example/even_commute/evencommute/comparison/LinkEnds" "fromNode" "I" (.int (0 : Int32)) := D45 (Or.inr (hw _ (List.mem_of_getElem? (i := 15) rfl))) (ty := .int) (by decide)
              have f50 : Fld Z h45 b45 "com/example/even_commute/evencommute/comparison/LinkEnds" "toNode" "I" (.int (0 : Int32)) := D45 (Or.inr (hw _ (List.mem_of_getElem? (i := 17) rfl))) (ty := .int) (by decide)
              refine own_by (T' := T45) (g' := (mkF m 159 #[.val (.int p0), .val (.int p1), .val (.int p2), .val (.int p3), .val (.int p4), .val (.int (posF p0)), .val (.int (posF p1)), .val (.int x2), .val (.int y2), .val (.int (((p4.toUInt32 >>> ((2 : Int32) &&& 31).toUInt32).toInt32) &&& (7 : Int32))), .val (.ref b9), .val (.int x3), .val (.int y3), .unset, .unset, .unset, .unset] [(.ref b45)])) st45 ?_
              refine own_by (T' := T45) (g' := (mkF m 160 #[.val (.int p0), .val (.int p1), .val (.int p2), .val (.int p3), .val (.int p4), .val (.int (posF p0)), .val (.int (posF p1)), .val (.int x2), .val (.int y2), .val (.int (((p4.toUInt32 >>> ((2 : Int32) &&& 31).toUInt32).toInt32) &&& (7 : Int32))), .val (.ref b9), .val (.int x3), .val (.int y3), .unset, .unset, .unset, .unset] [(.ref b45), (.ref b45)])) (fun _ kt_ => XS.dup X45.here hx rfl (hb hby at_159) rfl rfl kt_) ?_
              refine own_by (T' := T45) (g' := (mkF m 162 #[.val (.int p0), .val (.int p1), .val (.int p2), .val (.int p3), .val (.int p4), .val (.int (posF p0)), .val (.int (posF p1)), .val (.int x2), .val (.int y2), .val (.int (((p4.toUInt32 >>> ((2 : Int32) &&& 31).toUInt32).toInt32) &&& (7 : Int32))), .val (.ref b9), .val (.int x3), .val (.int y3), .unset, .unset, .unset, .unset] [(.int x3), (.ref b45), (.ref b45)])) (fun _ kt_ => XS.iload X45.here hx rfl (hb hby at_160) rfl kt_) ?_
              refine own_by (T' := T45) (g' := (mkF m 164 #[.val (.int p0), .val (.int p1), .val (.int p2), .val (.int p3), .val (.int p4), .val (.int (posF p0)), .val (.int (posF p1)), .val (.int x2), .val (.int y2), .val (.int (((p4.toUInt32 >>> ((2 : Int32) &&& 31).toUInt32).toInt32) &&& (7 : Int32))), .val (.ref b9), .val (.int x3), .val (.int y3), .unset, .unset, .unset, .unset] [(.int y3), (.int x3), (.ref b45), (.ref b45)])) (fun _ kt_ => XS.iload X45.here hx rfl (hb hby at_162) rfl kt_) ?_
              obtain ⟨_, _, ⟨T51, L51, k51, n51⟩, -, X51, ⟨Lc51, hQ51, l51, y51, z51⟩, st51⟩ := X45.specialBack hx (y := (⟨"com/example/even_commute/evencommute/comparison/LinkEnds", "<init>", "(II)V"⟩ : MethodName)) rfl hown (mvT hZ (hw _ (List.mem_of_getElem? (i := 8) rfl))) (mvT hZ (hw _ (List.mem_of_getElem? (i := 9) rfl))) (mvT hZ (hw _ (List.mem_of_getElem? (i := 10) rfl))) (by decide) (backOf (W := 1) (rmIni l Z a0 hw [] wC cC GS b45 x3 y3 h45 n0 (by omega) oo47 hj44.1 hj44.2 A45 (by omega) f49 f50) hZ (hw _ (List.mem_of_getElem? (i := 10) rfl)) (hw _ (List.mem_of_getElem? (i := 7) rfl)) (by decide) (by decide)) (g := (mkF m 164 #[.val (.int p0), .val (.int p1), .val (.int p2), .val (.int p3), .val (.int p4), .val (.int (posF p0)), .val (.int (posF p1)), .val (.int x2), .val (.int y2), .val (.int (((p4.toUInt32 >>> ((2 : Int32) &&& 31).toUInt32).toInt32) &&& (7 : Int32))), .val (.ref b9), .val (.int x3), .val (.int y3), .unset, .unset, .unset, .unset] [(.int y3), (.int x3), (.ref b45), (.ref b45)])) rfl (by rw [hml]; rfl) (Steps.refl _) (a := b45) (argsL := [(.int x3), (.int y3)]) (rest := [(.ref b45)]) (lenOf own_pd_3 rfl) rfl (by show 2 * 0 + _ ≤ _; exact Nat.le_of_eq rfl) (hb hby at_164) (fun _ _ => ⟨rfl, e45, (by decide : 2 + 0 ≤ _), (by decide : 4 + 0 ≤ _)⟩)
              dsimp only [Pt.U, Pt.locs, Pt.cells, Pt.slots] at X51 l51 y51 z51 st51 hQ51
              subst l51 y51 z51
              obtain ⟨rfl, N51q, K51, p51_0, p51_1⟩ := hQ51
              have N52 := Fr.app N43 N51q
              have zzK51 : h45.size ≤ T51.heap.size := K51.1
              have oo53 : Old Z n0 T51.heap := oo47.keep K51 (allS (by omega : n0 ≤ b45) all0)
              have kt54 : Keep h0 T51.heap [] := kt48.trans K51 (allS (Or.inr (by omega : h0.size ≤ b45)) all0)
              refine own_by (T' := T51) (g' := (mkF m 167 #[.val (.int p0), .val (.int p1), .val (.int p2), .val (.int p3), .val (.int p4), .val (.int (posF p0)), .val (.int (posF p1)), .val (.int x2), .val (.int y2), .val (.int (((p4.toUInt32 >>> ((2 : Int32) &&& 31).toUInt32).toInt32) &&& (7 : Int32))), .val (.ref b9), .val (.int x3), .val (.int y3), .unset, .unset, .unset, .unset] [(.ref b45)])) (fun _ kt_ => st51.trans kt_) ?_
              refine own_by (T' := T51) (g' := (mkF m 169 #[.val (.int p0), .val (.int p1), .val (.int p2), .val (.int p3), .val (.int p4), .val (.int (posF p0)), .val (.int (posF p1)), .val (.int x2), .val (.int y2), .val (.int (((p4.toUInt32 >>> ((2 : Int32) &&& 31).toUInt32).toInt32) &&& (7 : Int32))), .val (.ref b9), .val (.int x3), .val (.int y3), .val (.ref b45), .unset, .unset, .unset] [])) (fun _ kt_ => XS.astore X51.here hx rfl (hb hby at_167) rfl rfl (l' := #[.val (.int p0), .val (.int p1), .val (.int p2), .val (.int p3), .val (.int p4), .val (.int (posF p0)), .val (.int (posF p1)), .val (.int x2), .val (.int y2), .val (.int (((p4.toUInt32 >>> ((2 : Int32) &&& 31).toUInt32).toInt32) &&& (7 : Int32))), .val (.ref b9), .val (.int x3), .val (.int y3), .val (.ref b45), .unset, .unset, .unset]) rfl kt_) ?_
              refine own_by (T' := T51) (g' := (mkF m 171 #[.val (.int p0), .val (.int p1), .val (.int p2), .val (.int p3), .val (.int p4), .val (.int (posF p0)), .val (.int (posF p1)), .val (.int x2), .val (.int y2), .val (.int (((p4.toUInt32 >>> ((2 : Int32) &&& 31).toUInt32).toInt32) &&& (7 : Int32))), .val (.ref b9), .val (.int x3), .val (.int y3), .val (.ref b45), .unset, .unset, .unset] [(.int (posF p0))])) (fun _ kt_ => XS.iload X51.here hx rfl (hb hby at_169) rfl kt_) ?_
              refine own_by (T' := T51) (g' := (mkF m 173 #[.val (.int p0), .val (.int p1), .val (.int p2), .val (.int p3), .val (.int p4), .val (.int (posF p0)), .val (.int (posF p1)), .val (.int x2), .val (.int y2), .val (.int (((p4.toUInt32 >>> ((2 : Int32) &&& 31).toUInt32).toInt32) &&& (7 : Int32))), .val (.ref b9), .val (.int x3), .val (.int y3), .val (.ref b45), .unset, .unset, .unset] [(.int x3), (.int (posF p0))])) (fun _ kt_ => XS.iload X51.here hx rfl (hb hby at_171) rfl kt_) ?_
              by_cases hc55 : (posF p0) = x3
              · refine own_by (T' := T51) (g' := (mkF m 176 #[.val (.int p0), .val (.int p1), .val (.int p2), .val (.int p3), .val (.int p4), .val (.int (posF p0)), .val (.int (posF p1)), .val (.int x2), .val (.int y2), .val (.int (((p4.toUInt32 >>> ((2 : Int32) &&& 31).toUInt32).toInt32) &&& (7 : Int32))), .val (.ref b9), .val (.int x3), .val (.int y3), .val (.ref b45), .unset, .unset, .unset] [])) (fun _ kt_ => XS.icmpNo X51.here hx rfl (hb hby at_173) rfl (XT.ii_ne_f hc55) kt_) ?_
                refine own_by (T' := T51) (g' := (mkF m 178 #[.val (.int p0), .val (.int p1), .val (.int p2), .val (.int p3), .val (.int p4), .val (.int (posF p0)), .val (.int (posF p1)), .val (.int x2), .val (.int y2), .val (.int (((p4.toUInt32 >>> ((2 : Int32) &&& 31).toUInt32).toInt32) &&& (7 : Int32))), .val (.ref b9), .val (.int x3), .val (.int y3), .val (.ref b45), .unset, .unset, .unset] [(.int (posF p1))])) (fun _ kt_ => XS.iload X51.here hx rfl (hb hby at_176) rfl kt_) ?_
                refine own_by (T' := T51) (g' := (mkF m 180 #[.val (.int p0), .val (.int p1), .val (.int p2), .val (.int p3), .val (.int p4), .val (.int (posF p0)), .val (.int (posF p1)), .val (.int x2), .val (.int y2), .val (.int (((p4.toUInt32 >>> ((2 : Int32) &&& 31).toUInt32).toInt32) &&& (7 : Int32))), .val (.ref b9), .val (.int x3), .val (.int y3), .val (.ref b45), .unset, .unset, .unset] [(.int y3), (.int (posF p1))])) (fun _ kt_ => XS.iload X51.here hx rfl (hb hby at_178) rfl kt_) ?_
                by_cases hc56 : (posF p1) = y3
                · refine own_by (T' := T51) (g' := (mkF m 183 #[.val (.int p0), .val (.int p1), .val (.int p2), .val (.int p3), .val (.int p4), .val (.int (posF p0)), .val (.int (posF p1)), .val (.int x2), .val (.int y2), .val (.int (((p4.toUInt32 >>> ((2 : Int32) &&& 31).toUInt32).toInt32) &&& (7 : Int32))), .val (.ref b9), .val (.int x3), .val (.int y3), .val (.ref b45), .unset, .unset, .unset] [])) (fun _ kt_ => XS.icmpNo X51.here hx rfl (hb hby at_180) rfl (XT.ii_ne_f hc56) kt_) ?_
                  refine own_by (T' := T51) (g' := (mkF m 184 #[.val (.int p0), .val (.int p1), .val (.int p2), .val (.int p3), .val (.int p4), .val (.int (posF p0)), .val (.int (posF p1)), .val (.int x2), .val (.int y2), .val (.int (((p4.toUInt32 >>> ((2 : Int32) &&& 31).toUInt32).toInt32) &&& (7 : Int32))), .val (.ref b9), .val (.int x3), .val (.int y3), .val (.ref b45), .unset, .unset, .unset] [(.int (1 : Int32))])) (fun _ kt_ => XS.iconst X51.here hx rfl (hb hby at_183) kt_) ?_
                  refine own_by (T' := T51) (g' := (mkF m 188 #[.val (.int p0), .val (.int p1), .val (.int p2), .val (.int p3), .val (.int p4), .val (.int (posF p0)), .val (.int (posF p1)), .val (.int x2), .val (.int y2), .val (.int (((p4.toUInt32 >>> ((2 : Int32) &&& 31).toUInt32).toInt32) &&& (7 : Int32))), .val (.ref b9), .val (.int x3), .val (.int y3), .val (.ref b45), .unset, .unset, .unset] [(.int (1 : Int32))])) (fun _ kt_ => XS.goto X51.here hx rfl (pc0 := 184) (pc' := 188) rfl (hb hby at_184) (by decide) (by decide) kt_) ?_
                  refine own_by (T' := T51) (g' := (mkF m 190 #[.val (.int p0), .val (.int p1), .val (.int p2), .val (.int p3), .val (.int p4), .val (.int (posF p0)), .val (.int (posF p1)), .val (.int x2), .val (.int y2), .val (.int (((p4.toUInt32 >>> ((2 : Int32) &&& 31).toUInt32).toInt32) &&& (7 : Int32))), .val (.ref b9), .val (.int x3), .val (.int y3), .val (.ref b45), .val (.int (1 : Int32)), .unset, .unset] [])) (fun _ kt_ => XS.istore X51.here hx rfl (hb hby at_188) rfl (l' := #[.val (.int p0), .val (.int p1), .val (.int p2), .val (.int p3), .val (.int p4), .val (.int (posF p0)), .val (.int (posF p1)), .val (.int x2), .val (.int y2), .val (.int (((p4.toUInt32 >>> ((2 : Int32) &&& 31).toUInt32).toInt32) &&& (7 : Int32))), .val (.ref b9), .val (.int x3), .val (.int y3), .val (.ref b45), .val (.int (1 : Int32)), .unset, .unset]) rfl kt_) ?_
                  refine own_by (T' := T51) (g' := (mkF m 192 #[.val (.int p0), .val (.int p1), .val (.int p2), .val (.int p3), .val (.int p4), .val (.int (posF p0)), .val (.int (posF p1)), .val (.int x2), .val (.int y2), .val (.int (((p4.toUInt32 >>> ((2 : Int32) &&& 31).toUInt32).toInt32) &&& (7 : Int32))), .val (.ref b9), .val (.int x3), .val (.int y3), .val (.ref b45), .val (.int (1 : Int32)), .unset, .unset] [(.ref b9)])) (fun _ kt_ => XS.aload X51.here hx rfl (hb hby at_190) rfl rfl kt_) ?_
                  refine own_by (T' := T51) (g' := (mkF m 194 #[.val (.int p0), .val (.int p1), .val (.int p2), .val (.int p3), .val (.int p4), .val (.int (posF p0)), .val (.int (posF p1)), .val (.int x2), .val (.int y2), .val (.int (((p4.toUInt32 >>> ((2 : Int32) &&& 31).toUInt32).toInt32) &&& (7 : Int32))), .val (.ref b9), .val (.int x3), .val (.int y3), .val (.ref b45), .val (.int (1 : Int32)), .unset, .unset] [(.ref b45), (.ref b9)])) (fun _ kt_ => XS.aload X51.here hx rfl (hb hby at_192) rfl rfl kt_) ?_
                  have f57 : Exa Z T51.heap b45 "com/example/even_commute/evencommute/comparison/LinkEnds" := (A45.keep K51)
                  have ne58 : @Ne Nat b9 b45 := by omega
                  have f59 : Fld Z T51.heap b9 "com/example/even_commute/evencommute/comparison/LinkEnds" "fromNode" "I" (.int (posF p0)) := ((p15_0.keep K46 nin0).keep K51 (ninS ne58 nin0))
                  have f60 : Fld Z T51.heap b9 "com/example/even_commute/evencommute/comparison/LinkEnds" "toNode" "I" (.int (posF p1)) := ((p15_1.keep K46 nin0).keep K51 (ninS ne58 nin0))
                  have f62 : Exa Z T51.heap b9 "com/example/even_commute/evencommute/comparison/LinkEnds" := (((A9.keep K15).keep K46).keep K51)
                  obtain ⟨cq61, kq61, q61a, q61b, q61c⟩ := isOf hZ rfl f62
                  obtain ⟨_, _, ⟨T61, L61, k61, n61⟩, -, X61, ⟨Lc61, hQ61, l61, y61, z61⟩, st61⟩ := X51.virtualBack hx (y := (⟨"com/example/even_commute/evencommute/comparison/LinkEnds", "equals", "(Ljava/lang/Object;)Z"⟩ : MethodName)) (z := (⟨"com/example/even_commute/evencommute/comparison/LinkEnds", "equals", "(Ljava/lang/Object;)Z"⟩ : MethodName)) hown (mvT hZ (hw _ (List.mem_of_getElem? (i := 18) rfl))) (mvT hZ (hw _ (List.mem_of_getElem? (i := 19) rfl))) (notFace_of_selects (args := #[]) (mvT hZ (hw _ (List.mem_of_getElem? (i := 21) rfl)))) (mvT hZ (hw _ (List.mem_of_getElem? (i := 21) rfl))) (mvT hZ (hw _ (List.mem_of_getElem? (i := 20) rfl))) (by decide) (backOf (W := 0) (rmEq l Z a0 hw [] wC cC GS b9 b45 (posF p0) (posF p1) x3 y3 T51.heap n0 (by omega) oo53 f57 f59 f60 p51_0 p51_1) hZ (hw _ (List.mem_of_getElem? (i := 22) rfl)) (hw _ (List.mem_of_getElem? (i := 7) rfl)) (by decide) (by decide)) q61a q61c (g := (mkF m 194 #[.val (.int p0), .val (.int p1), .val (.int p2), .val (.int p3), .val (.int p4), .val (.int (posF p0)), .val (.int (posF p1)), .val (.int x2), .val (.int y2), .val (.int (((p4.toUInt32 >>> ((2 : Int32) &&& 31).toUInt32).toInt32) &&& (7 : Int32))), .val (.ref b9), .val (.int x3), .val (.int y3), .val (.ref b45), .val (.int (1 : Int32)), .unset, .unset] [(.ref b45), (.ref b9)])) rfl (by rw [hml]; rfl) (Steps.refl _) (argsL := [(.ref b45)]) (rest := []) (lenOf own_pd_4 rfl) rfl (by show 2 * 0 + _ ≤ _; exact Nat.le_of_eq rfl) (hb hby at_194) (fun _ _ => ⟨rfl, rfl, (by decide : 2 + 0 ≤ _), (by decide : 4 + 0 ≤ _)⟩)
                  dsimp only [Pt.U, Pt.locs, Pt.cells, Pt.slots] at X61 l61 y61 z61 st61 hQ61
                  subst l61 y61 z61
                  obtain ⟨rfl, N61q, e61⟩ := hQ61
                  have N63 := Fr.app N52 N61q
                  refine own_by (T' := T61) (g' := (mkF m 197 #[.val (.int p0), .val (.int p1), .val (.int p2), .val (.int p3), .val (.int p4), .val (.int (posF p0)), .val (.int (posF p1)), .val (.int x2), .val (.int y2), .val (.int (((p4.toUInt32 >>> ((2 : Int32) &&& 31).toUInt32).toInt32) &&& (7 : Int32))), .val (.ref b9), .val (.int x3), .val (.int y3), .val (.ref b45), .val (.int (1 : Int32)), .unset, .unset] [(.int (if (posF p0) = x3 then (if (posF p1) = y3 then (1 : Int32) else (0 : Int32)) else (0 : Int32)))])) (fun _ kt_ => st61.trans kt_) ?_
                  refine own_by (T' := T61) (g' := (mkF m 199 #[.val (.int p0), .val (.int p1), .val (.int p2), .val (.int p3), .val (.int p4), .val (.int (posF p0)), .val (.int (posF p1)), .val (.int x2), .val (.int y2), .val (.int (((p4.toUInt32 >>> ((2 : Int32) &&& 31).toUInt32).toInt32) &&& (7 : Int32))), .val (.ref b9), .val (.int x3), .val (.int y3), .val (.ref b45), .val (.int (1 : Int32)), .val (.int (if (posF p0) = x3 then (if (posF p1) = y3 then (1 : Int32) else (0 : Int32)) else (0 : Int32))), .unset] [])) (fun _ kt_ => XS.istore X61.here hx rfl (hb hby at_197) rfl (l' := #[.val (.int p0), .val (.int p1), .val (.int p2), .val (.int p3), .val (.int p4), .val (.int (posF p0)), .val (.int (posF p1)), .val (.int x2), .val (.int y2), .val (.int (((p4.toUInt32 >>> ((2 : Int32) &&& 31).toUInt32).toInt32) &&& (7 : Int32))), .val (.ref b9), .val (.int x3), .val (.int y3), .val (.ref b45), .val (.int (1 : Int32)), .val (.int (if (posF p0) = x3 then (if (posF p1) = y3 then (1 : Int32) else (0 : Int32)) else (0 : Int32))), .unset]) rfl kt_) ?_
                  refine own_by (T' := T61) (g' := (mkF m 201 #[.val (.int p0), .val (.int p1), .val (.int p2), .val (.int p3), .val (.int p4), .val (.int (posF p0)), .val (.int (posF p1)), .val (.int x2), .val (.int y2), .val (.int (((p4.toUInt32 >>> ((2 : Int32) &&& 31).toUInt32).toInt32) &&& (7 : Int32))), .val (.ref b9), .val (.int x3), .val (.int y3), .val (.ref b45), .val (.int (1 : Int32)), .val (.int (if (posF p0) = x3 then (if (posF p1) = y3 then (1 : Int32) else (0 : Int32)) else (0 : Int32))), .unset] [(.ref b45)])) (fun _ kt_ => XS.aload X61.here hx rfl (hb hby at_199) rfl rfl kt_) ?_
                  refine own_by (T' := T61) (g' := (mkF m 203 #[.val (.int p0), .val (.int p1), .val (.int p2), .val (.int p3), .val (.int p4), .val (.int (posF p0)), .val (.int (posF p1)), .val (.int x2), .val (.int y2), .val (.int (((p4.toUInt32 >>> ((2 : Int32) &&& 31).toUInt32).toInt32) &&& (7 : Int32))), .val (.ref b9), .val (.int x3), .val (.int y3), .val (.ref b45), .val (.int (1 : Int32)), .val (.int (if (posF p0) = x3 then (if (posF p1) = y3 then (1 : Int32) else (0 : Int32)) else (0 : Int32))), .unset] [(.ref b9), (.ref b45)])) (fun _ kt_ => XS.aload X61.here hx rfl (hb hby at_201) rfl rfl kt_) ?_
                  obtain ⟨cq64, kq64, q64a, q64b, q64c⟩ := isOf hZ e61 f57
                  obtain ⟨_, _, ⟨T64, L64, k64, n64⟩, -, X64, ⟨Lc64, hQ64, l64, y64, z64⟩, st64⟩ := X61.virtualBack hx (y := (⟨"com/example/even_commute/evencommute/comparison/LinkEnds", "equals", "(Ljava/lang/Object;)Z"⟩ : MethodName)) (z := (⟨"com/example/even_commute/evencommute/comparison/LinkEnds", "equals", "(Ljava/lang/Object;)Z"⟩ : MethodName)) hown (mvT hZ (hw _ (List.mem_of_getElem? (i := 18) rfl))) (mvT hZ (hw _ (List.mem_of_getElem? (i := 19) rfl))) (notFace_of_selects (args := #[]) (mvT hZ (hw _ (List.mem_of_getElem? (i := 21) rfl)))) (mvT hZ (hw _ (List.mem_of_getElem? (i := 21) rfl))) (mvT hZ (hw _ (List.mem_of_getElem? (i := 20) rfl))) (by decide) (backOf (W := 0) (rmEq l Z a0 hw [] wC cC GS b45 b9 x3 y3 (posF p0) (posF p1) T51.heap n0 (by omega) oo53 f62 p51_0 p51_1 f59 f60) hZ (hw _ (List.mem_of_getElem? (i := 22) rfl)) (hw _ (List.mem_of_getElem? (i := 7) rfl)) (by decide) (by decide)) q64a q64c (g := (mkF m 203 #[.val (.int p0), .val (.int p1), .val (.int p2), .val (.int p3), .val (.int p4), .val (.int (posF p0)), .val (.int (posF p1)), .val (.int x2), .val (.int y2), .val (.int (((p4.toUInt32 >>> ((2 : Int32) &&& 31).toUInt32).toInt32) &&& (7 : Int32))), .val (.ref b9), .val (.int x3), .val (.int y3), .val (.ref b45), .val (.int (1 : Int32)), .val (.int (if (posF p0) = x3 then (if (posF p1) = y3 then (1 : Int32) else (0 : Int32)) else (0 : Int32))), .unset] [(.ref b9), (.ref b45)])) rfl (by rw [hml]; rfl) (Steps.refl _) (argsL := [(.ref b9)]) (rest := []) (lenOf own_pd_4 rfl) rfl (by show 2 * 0 + _ ≤ _; exact Nat.le_of_eq rfl) (hb hby at_203) (fun _ _ => ⟨rfl, e61, (by decide : 2 + 0 ≤ _), (by decide : 4 + 0 ≤ _)⟩)
                  dsimp only [Pt.U, Pt.locs, Pt.cells, Pt.slots] at X64 l64 y64 z64 st64 hQ64
                  subst l64 y64 z64
                  obtain ⟨rfl, N64q, e64⟩ := hQ64
                  have N65 := Fr.app N63 N64q
                  refine own_by (T' := T64) (g' := (mkF m 206 #[.val (.int p0), .val (.int p1), .val (.int p2), .val (.int p3), .val (.int p4), .val (.int (posF p0)), .val (.int (posF p1)), .val (.int x2), .val (.int y2), .val (.int (((p4.toUInt32 >>> ((2 : Int32) &&& 31).toUInt32).toInt32) &&& (7 : Int32))), .val (.ref b9), .val (.int x3), .val (.int y3), .val (.ref b45), .val (.int (1 : Int32)), .val (.int (if (posF p0) = x3 then (if (posF p1) = y3 then (1 : Int32) else (0 : Int32)) else (0 : Int32))), .unset] [(.int (if x3 = (posF p0) then (if y3 = (posF p1) then (1 : Int32) else (0 : Int32)) else (0 : Int32)))])) (fun _ kt_ => st64.trans kt_) ?_
                  refine own_by (T' := T64) (g' := (mkF m 208 #[.val (.int p0), .val (.int p1), .val (.int p2), .val (.int p3), .val (.int p4), .val (.int (posF p0)), .val (.int (posF p1)), .val (.int x2), .val (.int y2), .val (.int (((p4.toUInt32 >>> ((2 : Int32) &&& 31).toUInt32).toInt32) &&& (7 : Int32))), .val (.ref b9), .val (.int x3), .val (.int y3), .val (.ref b45), .val (.int (1 : Int32)), .val (.int (if (posF p0) = x3 then (if (posF p1) = y3 then (1 : Int32) else (0 : Int32)) else (0 : Int32))), .val (.int (if x3 = (posF p0) then (if y3 = (posF p1) then (1 : Int32) else (0 : Int32)) else (0 : Int32)))] [])) (fun _ kt_ => XS.istore X64.here hx rfl (hb hby at_206) rfl (l' := #[.val (.int p0), .val (.int p1), .val (.int p2), .val (.int p3), .val (.int p4), .val (.int (posF p0)), .val (.int (posF p1)), .val (.int x2), .val (.int y2), .val (.int (((p4.toUInt32 >>> ((2 : Int32) &&& 31).toUInt32).toInt32) &&& (7 : Int32))), .val (.ref b9), .val (.int x3), .val (.int y3), .val (.ref b45), .val (.int (1 : Int32)), .val (.int (if (posF p0) = x3 then (if (posF p1) = y3 then (1 : Int32) else (0 : Int32)) else (0 : Int32))), .val (.int (if x3 = (posF p0) then (if y3 = (posF p1) then (1 : Int32) else (0 : Int32)) else (0 : Int32)))]) rfl kt_) ?_
                  refine own_by (T' := T64) (g' := (mkF m 210 #[.val (.int p0), .val (.int p1), .val (.int p2), .val (.int p3), .val (.int p4), .val (.int (posF p0)), .val (.int (posF p1)), .val (.int x2), .val (.int y2), .val (.int (((p4.toUInt32 >>> ((2 : Int32) &&& 31).toUInt32).toInt32) &&& (7 : Int32))), .val (.ref b9), .val (.int x3), .val (.int y3), .val (.ref b45), .val (.int (1 : Int32)), .val (.int (if (posF p0) = x3 then (if (posF p1) = y3 then (1 : Int32) else (0 : Int32)) else (0 : Int32))), .val (.int (if x3 = (posF p0) then (if y3 = (posF p1) then (1 : Int32) else (0 : Int32)) else (0 : Int32)))] [(.int (if (posF p0) = x3 then (if (posF p1) = y3 then (1 : Int32) else (0 : Int32)) else (0 : Int32)))])) (fun _ kt_ => XS.iload X64.here hx rfl (hb hby at_208) rfl kt_) ?_
                  refine own_by (T' := T64) (g' := (mkF m 212 #[.val (.int p0), .val (.int p1), .val (.int p2), .val (.int p3), .val (.int p4), .val (.int (posF p0)), .val (.int (posF p1)), .val (.int x2), .val (.int y2), .val (.int (((p4.toUInt32 >>> ((2 : Int32) &&& 31).toUInt32).toInt32) &&& (7 : Int32))), .val (.ref b9), .val (.int x3), .val (.int y3), .val (.ref b45), .val (.int (1 : Int32)), .val (.int (if (posF p0) = x3 then (if (posF p1) = y3 then (1 : Int32) else (0 : Int32)) else (0 : Int32))), .val (.int (if x3 = (posF p0) then (if y3 = (posF p1) then (1 : Int32) else (0 : Int32)) else (0 : Int32)))] [(.int (1 : Int32)), (.int (if (posF p0) = x3 then (if (posF p1) = y3 then (1 : Int32) else (0 : Int32)) else (0 : Int32)))])) (fun _ kt_ => XS.iload X64.here hx rfl (hb hby at_210) rfl kt_) ?_
                  refine own_by (T' := T64) (g' := (mkF m 215 #[.val (.int p0), .val (.int p1), .val (.int p2), .val (.int p3), .val (.int p4), .val (.int (posF p0)), .val (.int (posF p1)), .val (.int x2), .val (.int y2), .val (.int (((p4.toUInt32 >>> ((2 : Int32) &&& 31).toUInt32).toInt32) &&& (7 : Int32))), .val (.ref b9), .val (.int x3), .val (.int y3), .val (.ref b45), .val (.int (1 : Int32)), .val (.int (if (posF p0) = x3 then (if (posF p1) = y3 then (1 : Int32) else (0 : Int32)) else (0 : Int32))), .val (.int (if x3 = (posF p0) then (if y3 = (posF p1) then (1 : Int32) else (0 : Int32)) else (0 : Int32)))] [])) (fun _ kt_ => XS.icmpNo X64.here hx rfl (hb hby at_212) rfl (XT.ii_ne_f (by simp [hc19, (Ne.symm hc19), hc25, (Ne.symm hc25), hc36, (Ne.symm hc36), hc55, hc56])) kt_) ?_
                  refine own_by (T' := T64) (g' := (mkF m 217 #[.val (.int p0), .val (.int p1), .val (.int p2), .val (.int p3), .val (.int p4), .val (.int (posF p0)), .val (.int (posF p1)), .val (.int x2), .val (.int y2), .val (.int (((p4.toUInt32 >>> ((2 : Int32) &&& 31).toUInt32).toInt32) &&& (7 : Int32))), .val (.ref b9), .val (.int x3), .val (.int y3), .val (.ref b45), .val (.int (1 : Int32)), .val (.int (if (posF p0) = x3 then (if (posF p1) = y3 then (1 : Int32) else (0 : Int32)) else (0 : Int32))), .val (.int (if x3 = (posF p0) then (if y3 = (posF p1) then (1 : Int32) else (0 : Int32)) else (0 : Int32)))] [(.int (if x3 = (posF p0) then (if y3 = (posF p1) then (1 : Int32) else (0 : Int32)) else (0 : Int32)))])) (fun _ kt_ => XS.iload X64.here hx rfl (hb hby at_215) rfl kt_) ?_
                  refine own_by (T' := T64) (g' := (mkF m 219 #[.val (.int p0), .val (.int p1), .val (.int p2), .val (.int p3), .val (.int p4), .val (.int (posF p0)), .val (.int (posF p1)), .val (.int x2), .val (.int y2), .val (.int (((p4.toUInt32 >>> ((2 : Int32) &&& 31).toUInt32).toInt32) &&& (7 : Int32))), .val (.ref b9), .val (.int x3), .val (.int y3), .val (.ref b45), .val (.int (1 : Int32)), .val (.int (if (posF p0) = x3 then (if (posF p1) = y3 then (1 : Int32) else (0 : Int32)) else (0 : Int32))), .val (.int (if x3 = (posF p0) then (if y3 = (posF p1) then (1 : Int32) else (0 : Int32)) else (0 : Int32)))] [(.int (1 : Int32)), (.int (if x3 = (posF p0) then (if y3 = (posF p1) then (1 : Int32) else (0 : Int32)) else (0 : Int32)))])) (fun _ kt_ => XS.iload X64.here hx rfl (hb hby at_217) rfl kt_) ?_
                  refine own_by (T' := T64) (g' := (mkF m 222 #[.val (.int p0), .val (.int p1), .val (.int p2), .val (.int p3), .val (.int p4), .val (.int (posF p0)), .val (.int (posF p1)), .val (.int x2), .val (.int y2), .val (.int (((p4.toUInt32 >>> ((2 : Int32) &&& 31).toUInt32).toInt32) &&& (7 : Int32))), .val (.ref b9), .val (.int x3), .val (.int y3), .val (.ref b45), .val (.int (1 : Int32)), .val (.int (if (posF p0) = x3 then (if (posF p1) = y3 then (1 : Int32) else (0 : Int32)) else (0 : Int32))), .val (.int (if x3 = (posF p0) then (if y3 = (posF p1) then (1 : Int32) else (0 : Int32)) else (0 : Int32)))] [])) (fun _ kt_ => XS.icmpNo X64.here hx rfl (hb hby at_219) rfl (XT.ii_ne_f (by simp [hc19, (Ne.symm hc19), hc25, (Ne.symm hc25), hc36, (Ne.symm hc36), hc55, hc56])) kt_) ?_
                  refine own_by (T' := T64) (g' := (mkF m 223 #[.val (.int p0), .val (.int p1), .val (.int p2), .val (.int p3), .val (.int p4), .val (.int (posF p0)), .val (.int (posF p1)), .val (.int x2), .val (.int y2), .val (.int (((p4.toUInt32 >>> ((2 : Int32) &&& 31).toUInt32).toInt32) &&& (7 : Int32))), .val (.ref b9), .val (.int x3), .val (.int y3), .val (.ref b45), .val (.int (1 : Int32)), .val (.int (if (posF p0) = x3 then (if (posF p1) = y3 then (1 : Int32) else (0 : Int32)) else (0 : Int32))), .val (.int (if x3 = (posF p0) then (if y3 = (posF p1) then (1 : Int32) else (0 : Int32)) else (0 : Int32)))] [(.int (1 : Int32))])) (fun _ kt_ => XS.iconst X64.here hx rfl (hb hby at_222) kt_) ?_
                  refine own_by (T' := T64) (g' := (mkF m 227 #[.val (.int p0), .val (.int p1), .val (.int p2), .val (.int p3), .val (.int p4), .val (.int (posF p0)), .val (.int (posF p1)), .val (.int x2), .val (.int y2), .val (.int (((p4.toUInt32 >>> ((2 : Int32) &&& 31).toUInt32).toInt32) &&& (7 : Int32))), .val (.ref b9), .val (.int x3), .val (.int y3), .val (.ref b45), .val (.int (1 : Int32)), .val (.int (if (posF p0) = x3 then (if (posF p1) = y3 then (1 : Int32) else (0 : Int32)) else (0 : Int32))), .val (.int (if x3 = (posF p0) then (if y3 = (posF p1) then (1 : Int32) else (0 : Int32)) else (0 : Int32)))] [(.int (1 : Int32))])) (fun _ kt_ => XS.goto X64.here hx rfl (pc0 := 223) (pc' := 227) rfl (hb hby at_223) (by decide) (by decide) kt_) ?_
                  have hn66 : nar .boolean (1 : Int32) = (1 : Int32) := rfl
                  obtain ⟨fs67, hr67, hrun67, hended67, hW67, hsame67⟩ := X64.leave (v := some (.int (nar .boolean (1 : Int32)))) (fun h => by rw [Bd.returns] at h; cases h)
                  refine ⟨_, _, retN X64 hx (t := .boolean) Bd.returns (by simp) (hb hby at_227) hr67, hrun67, hended67, _, _, rfl, ?_, ⟨_, rfl⟩, hW67, hsame67.mono (by decide) (by decide)⟩
                  show Q_rm0 Z wC cC p0 p1 p2 p3 p4 h0 n0 _ T64.heap _
                  exact ⟨(congrArg (fun z => some (Value.int z)) hn66), N65⟩
                · refine own_by (T' := T51) (g' := (mkF m 187 #[.val (.int p0), .val (.int p1), .val (.int p2), .val (.int p3), .val (.int p4), .val (.int (posF p0)), .val (.int (posF p1)), .val (.int x2), .val (.int y2), .val (.int (((p4.toUInt32 >>> ((2 : Int32) &&& 31).toUInt32).toInt32) &&& (7 : Int32))), .val (.ref b9), .val (.int x3), .val (.int y3), .val (.ref b45), .unset, .unset, .unset] [])) (fun _ kt_ => XS.icmpYes X51.here hx rfl (pc0 := 180) (pc' := 187) rfl (hb hby at_180) rfl (XT.ii_ne_t hc56) (by decide) (by decide) kt_) ?_
                  refine own_by (T' := T51) (g' := (mkF m 188 #[.val (.int p0), .val (.int p1), .val (.int p2), .val (.int p3), .val (.int p4), .val (.int (posF p0)), .val (.int (posF p1)), .val (.int x2), .val (.int y2), .val (.int (((p4.toUInt32 >>> ((2 : Int32) &&& 31).toUInt32).toInt32) &&& (7 : Int32))), .val (.ref b9), .val (.int x3), .val (.int y3), .val (.ref b45), .unset, .unset, .unset] [(.int (0 : Int32))])) (fun _ kt_ => XS.iconst X51.here hx rfl (hb hby at_187) kt_) ?_
                  refine own_by (T' := T51) (g' := (mkF m 190 #[.val (.int p0), .val (.int p1), .val (.int p2), .val (.int p3), .val (.int p4), .val (.int (posF p0)), .val (.int (posF p1)), .val (.int x2), .val (.int y2), .val (.int (((p4.toUInt32 >>> ((2 : Int32) &&& 31).toUInt32).toInt32) &&& (7 : Int32))), .val (.ref b9), .val (.int x3), .val (.int y3), .val (.ref b45), .val (.int (0 : Int32)), .unset, .unset] [])) (fun _ kt_ => XS.istore X51.here hx rfl (hb hby at_188) rfl (l' := #[.val (.int p0), .val (.int p1), .val (.int p2), .val (.int p3), .val (.int p4), .val (.int (posF p0)), .val (.int (posF p1)), .val (.int x2), .val (.int y2), .val (.int (((p4.toUInt32 >>> ((2 : Int32) &&& 31).toUInt32).toInt32) &&& (7 : Int32))), .val (.ref b9), .val (.int x3), .val (.int y3), .val (.ref b45), .val (.int (0 : Int32)), .unset, .unset]) rfl kt_) ?_
                  refine own_by (T' := T51) (g' := (mkF m 192 #[.val (.int p0), .val (.int p1), .val (.int p2), .val (.int p3), .val (.int p4), .val (.int (posF p0)), .val (.int (posF p1)), .val (.int x2), .val (.int y2), .val (.int (((p4.toUInt32 >>> ((2 : Int32) &&& 31).toUInt32).toInt32) &&& (7 : Int32))), .val (.ref b9), .val (.int x3), .val (.int y3), .val (.ref b45), .val (.int (0 : Int32)), .unset, .unset] [(.ref b9)])) (fun _ kt_ => XS.aload X51.here hx rfl (hb hby at_190) rfl rfl kt_) ?_
                  refine own_by (T' := T51) (g' := (mkF m 194 #[.val (.int p0), .val (.int p1), .val (.int p2), .val (.int p3), .val (.int p4), .val (.int (posF p0)), .val (.int (posF p1)), .val (.int x2), .val (.int y2), .val (.int (((p4.toUInt32 >>> ((2 : Int32) &&& 31).toUInt32).toInt32) &&& (7 : Int32))), .val (.ref b9), .val (.int x3), .val (.int y3), .val (.ref b45), .val (.int (0 : Int32)), .unset, .unset] [(.ref b45), (.ref b9)])) (fun _ kt_ => XS.aload X51.here hx rfl (hb hby at_192) rfl rfl kt_) ?_
                  have f68 : Exa Z T51.heap b45 "com/example/even_commute/evencommute/comparison/LinkEnds" := (A45.keep K51)
                  have ne69 : @Ne Nat b9 b45 := by omega
                  have f70 : Fld Z T51.heap b9 "com/example/even_commute/evencommute/comparison/LinkEnds" "fromNode" "I" (.int (posF p0)) := ((p15_0.keep K46 nin0).keep K51 (ninS ne69 nin0))
                  have f71 : Fld Z T51.heap b9 "com/example/even_commute/evencommute/comparison/LinkEnds" "toNode" "I" (.int (posF p1)) := ((p15_1.keep K46 nin0).keep K51 (ninS ne69 nin0))
                  have f73 : Exa Z T51.heap b9 "com/example/even_commute/evencommute/comparison/LinkEnds" := (((A9.keep K15).keep K46).keep K51)
                  obtain ⟨cq72, kq72, q72a, q72b, q72c⟩ := isOf hZ rfl f73
                  obtain ⟨_, _, ⟨T72, L72, k72, n72⟩, -, X72, ⟨Lc72, hQ72, l72, y72, z72⟩, st72⟩ := X51.virtualBack hx (y := (⟨"com/example/even_commute/evencommute/comparison/LinkEnds", "equals", "(Ljava/lang/Object;)Z"⟩ : MethodName)) (z := (⟨"com/example/even_commute/evencommute/comparison/LinkEnds", "equals", "(Ljava/lang/Object;)Z"⟩ : MethodName)) hown (mvT hZ (hw _ (List.mem_of_getElem? (i := 18) rfl))) (mvT hZ (hw _ (List.mem_of_getElem? (i := 19) rfl))) (notFace_of_selects (args := #[]) (mvT hZ (hw _ (List.mem_of_getElem? (i := 21) rfl)))) (mvT hZ (hw _ (List.mem_of_getElem? (i := 21) rfl))) (mvT hZ (hw _ (List.mem_of_getElem? (i := 20) rfl))) (by decide) (backOf (W := 0) (rmEq l Z a0 hw [] wC cC GS b9 b45 (posF p0) (posF p1) x3 y3 T51.heap n0 (by omega) oo53 f68 f70 f71 p51_0 p51_1) hZ (hw _ (List.mem_of_getElem? (i := 22) rfl)) (hw _ (List.mem_of_getElem? (i := 7) rfl)) (by decide) (by decide)) q72a q72c (g := (mkF m 194 #[.val (.int p0), .val (.int p1), .val (.int p2), .val (.int p3), .val (.int p4), .val (.int (posF p0)), .val (.int (posF p1)), .val (.int x2), .val (.int y2), .val (.int (((p4.toUInt32 >>> ((2 : Int32) &&& 31).toUInt32).toInt32) &&& (7 : Int32))), .val (.ref b9), .val (.int x3), .val (.int y3), .val (.ref b45), .val (.int (0 : Int32)), .unset, .unset] [(.ref b45), (.ref b9)])) rfl (by rw [hml]; rfl) (Steps.refl _) (argsL := [(.ref b45)]) (rest := []) (lenOf own_pd_4 rfl) rfl (by show 2 * 0 + _ ≤ _; exact Nat.le_of_eq rfl) (hb hby at_194) (fun _ _ => ⟨rfl, rfl, (by decide : 2 + 0 ≤ _), (by decide : 4 + 0 ≤ _)⟩)
                  dsimp only [Pt.U, Pt.locs, Pt.cells, Pt.slots] at X72 l72 y72 z72 st72 hQ72
                  subst l72 y72 z72
                  obtain ⟨rfl, N72q, e72⟩ := hQ72
                  have N74 := Fr.app N52 N72q
                  refine own_by (T' := T72) (g' := (mkF m 197 #[.val (.int p0), .val (.int p1), .val (.int p2), .val (.int p3), .val (.int p4), .val (.int (posF p0)), .val (.int (posF p1)), .val (.int x2), .val (.int y2), .val (.int (((p4.toUInt32 >>> ((2 : Int32) &&& 31).toUInt32).toInt32) &&& (7 : Int32))), .val (.ref b9), .val (.int x3), .val (.int y3), .val (.ref b45), .val (.int (0 : Int32)), .unset, .unset] [(.int (if (posF p0) = x3 then (if (posF p1) = y3 then (1 : Int32) else (0 : Int32)) else (0 : Int32)))])) (fun _ kt_ => st72.trans kt_) ?_
                  refine own_by (T' := T72) (g' := (mkF m 199 #[.val (.int p0), .val (.int p1), .val (.int p2), .val (.int p3), .val (.int p4), .val (.int (posF p0)), .val (.int (posF p1)), .val (.int x2), .val (.int y2), .val (.int (((p4.toUInt32 >>> ((2 : Int32) &&& 31).toUInt32).toInt32) &&& (7 : Int32))), .val (.ref b9), .val (.int x3), .val (.int y3), .val (.ref b45), .val (.int (0 : Int32)), .val (.int (if (posF p0) = x3 then (if (posF p1) = y3 then (1 : Int32) else (0 : Int32)) else (0 : Int32))), .unset] [])) (fun _ kt_ => XS.istore X72.here hx rfl (hb hby at_197) rfl (l' := #[.val (.int p0), .val (.int p1), .val (.int p2), .val (.int p3), .val (.int p4), .val (.int (posF p0)), .val (.int (posF p1)), .val (.int x2), .val (.int y2), .val (.int (((p4.toUInt32 >>> ((2 : Int32) &&& 31).toUInt32).toInt32) &&& (7 : Int32))), .val (.ref b9), .val (.int x3), .val (.int y3), .val (.ref b45), .val (.int (0 : Int32)), .val (.int (if (posF p0) = x3 then (if (posF p1) = y3 then (1 : Int32) else (0 : Int32)) else (0 : Int32))), .unset]) rfl kt_) ?_
                  refine own_by (T' := T72) (g' := (mkF m 201 #[.val (.int p0), .val (.int p1), .val (.int p2), .val (.int p3), .val (.int p4), .val (.int (posF p0)), .val (.int (posF p1)), .val (.int x2), .val (.int y2), .val (.int (((p4.toUInt32 >>> ((2 : Int32) &&& 31).toUInt32).toInt32) &&& (7 : Int32))), .val (.ref b9), .val (.int x3), .val (.int y3), .val (.ref b45), .val (.int (0 : Int32)), .val (.int (if (posF p0) = x3 then (if (posF p1) = y3 then (1 : Int32) else (0 : Int32)) else (0 : Int32))), .unset] [(.ref b45)])) (fun _ kt_ => XS.aload X72.here hx rfl (hb hby at_199) rfl rfl kt_) ?_
                  refine own_by (T' := T72) (g' := (mkF m 203 #[.val (.int p0), .val (.int p1), .val (.int p2), .val (.int p3), .val (.int p4), .val (.int (posF p0)), .val (.int (posF p1)), .val (.int x2), .val (.int y2), .val (.int (((p4.toUInt32 >>> ((2 : Int32) &&& 31).toUInt32).toInt32) &&& (7 : Int32))), .val (.ref b9), .val (.int x3), .val (.int y3), .val (.ref b45), .val (.int (0 : Int32)), .val (.int (if (posF p0) = x3 then (if (posF p1) = y3 then (1 : Int32) else (0 : Int32)) else (0 : Int32))), .unset] [(.ref b9), (.ref b45)])) (fun _ kt_ => XS.aload X72.here hx rfl (hb hby at_201) rfl rfl kt_) ?_
                  obtain ⟨cq75, kq75, q75a, q75b, q75c⟩ := isOf hZ e72 f68
                  obtain ⟨_, _, ⟨T75, L75, k75, n75⟩, -, X75, ⟨Lc75, hQ75, l75, y75, z75⟩, st75⟩ := X72.virtualBack hx (y := (⟨"com/example/even_commute/evencommute/comparison/LinkEnds", "equals", "(Ljava/lang/Object;)Z"⟩ : MethodName)) (z := (⟨"com/example/even_commute/evencommute/comparison/LinkEnds", "equals", "(Ljava/lang/Object;)Z"⟩ : MethodName)) hown (mvT hZ (hw _ (List.mem_of_getElem? (i := 18) rfl))) (mvT hZ (hw _ (List.mem_of_getElem? (i := 19) rfl))) (notFace_of_selects (args := #[]) (mvT hZ (hw _ (List.mem_of_getElem? (i := 21) rfl)))) (mvT hZ (hw _ (List.mem_of_getElem? (i := 21) rfl))) (mvT hZ (hw _ (List.mem_of_getElem? (i := 20) rfl))) (by decide) (backOf (W := 0) (rmEq l Z a0 hw [] wC cC GS b45 b9 x3 y3 (posF p0) (posF p1) T51.heap n0 (by omega) oo53 f73 p51_0 p51_1 f70 f71) hZ (hw _ (List.mem_of_getElem? (i := 22) rfl)) (hw _ (List.mem_of_getElem? (i := 7) rfl)) (by decide) (by decide)) q75a q75c (g := (mkF m 203 #[.val (.int p0), .val (.int p1), .val (.int p2), .val (.int p3), .val (.int p4), .val (.int (posF p0)), .val (.int (posF p1)), .val (.int x2), .val (.int y2), .val (.int (((p4.toUInt32 >>> ((2 : Int32) &&& 31).toUInt32).toInt32) &&& (7 : Int32))), .val (.ref b9), .val (.int x3), .val (.int y3), .val (.ref b45), .val (.int (0 : Int32)), .val (.int (if (posF p0) = x3 then (if (posF p1) = y3 then (1 : Int32) else (0 : Int32)) else (0 : Int32))), .unset] [(.ref b9), (.ref b45)])) rfl (by rw [hml]; rfl) (Steps.refl _) (argsL := [(.ref b9)]) (rest := []) (lenOf own_pd_4 rfl) rfl (by show 2 * 0 + _ ≤ _; exact Nat.le_of_eq rfl) (hb hby at_203) (fun _ _ => ⟨rfl, e72, (by decide : 2 + 0 ≤ _), (by decide : 4 + 0 ≤ _)⟩)
                  dsimp only [Pt.U, Pt.locs, Pt.cells, Pt.slots] at X75 l75 y75 z75 st75 hQ75
                  subst l75 y75 z75
                  obtain ⟨rfl, N75q, e75⟩ := hQ75
                  have N76 := Fr.app N74 N75q
                  refine own_by (T' := T75) (g' := (mkF m 206 #[.val (.int p0), .val (.int p1), .val (.int p2), .val (.int p3), .val (.int p4), .val (.int (posF p0)), .val (.int (posF p1)), .val (.int x2), .val (.int y2), .val (.int (((p4.toUInt32 >>> ((2 : Int32) &&& 31).toUInt32).toInt32) &&& (7 : Int32))), .val (.ref b9), .val (.int x3), .val (.int y3), .val (.ref b45), .val (.int (0 : Int32)), .val (.int (if (posF p0) = x3 then (if (posF p1) = y3 then (1 : Int32) else (0 : Int32)) else (0 : Int32))), .unset] [(.int (if x3 = (posF p0) then (if y3 = (posF p1) then (1 : Int32) else (0 : Int32)) else (0 : Int32)))])) (fun _ kt_ => st75.trans kt_) ?_
                  refine own_by (T' := T75) (g' := (mkF m 208 #[.val (.int p0), .val (.int p1), .val (.int p2), .val (.int p3), .val (.int p4), .val (.int (posF p0)), .val (.int (posF p1)), .val (.int x2), .val (.int y2), .val (.int (((p4.toUInt32 >>> ((2 : Int32) &&& 31).toUInt32).toInt32) &&& (7 : Int32))), .val (.ref b9), .val (.int x3), .val (.int y3), .val (.ref b45), .val (.int (0 : Int32)), .val (.int (if (posF p0) = x3 then (if (posF p1) = y3 then (1 : Int32) else (0 : Int32)) else (0 : Int32))), .val (.int (if x3 = (posF p0) then (if y3 = (posF p1) then (1 : Int32) else (0 : Int32)) else (0 : Int32)))] [])) (fun _ kt_ => XS.istore X75.here hx rfl (hb hby at_206) rfl (l' := #[.val (.int p0), .val (.int p1), .val (.int p2), .val (.int p3), .val (.int p4), .val (.int (posF p0)), .val (.int (posF p1)), .val (.int x2), .val (.int y2), .val (.int (((p4.toUInt32 >>> ((2 : Int32) &&& 31).toUInt32).toInt32) &&& (7 : Int32))), .val (.ref b9), .val (.int x3), .val (.int y3), .val (.ref b45), .val (.int (0 : Int32)), .val (.int (if (posF p0) = x3 then (if (posF p1) = y3 then (1 : Int32) else (0 : Int32)) else (0 : Int32))), .val (.int (if x3 = (posF p0) then (if y3 = (posF p1) then (1 : Int32) else (0 : Int32)) else (0 : Int32)))]) rfl kt_) ?_
                  refine own_by (T' := T75) (g' := (mkF m 210 #[.val (.int p0), .val (.int p1), .val (.int p2), .val (.int p3), .val (.int p4), .val (.int (posF p0)), .val (.int (posF p1)), .val (.int x2), .val (.int y2), .val (.int (((p4.toUInt32 >>> ((2 : Int32) &&& 31).toUInt32).toInt32) &&& (7 : Int32))), .val (.ref b9), .val (.int x3), .val (.int y3), .val (.ref b45), .val (.int (0 : Int32)), .val (.int (if (posF p0) = x3 then (if (posF p1) = y3 then (1 : Int32) else (0 : Int32)) else (0 : Int32))), .val (.int (if x3 = (posF p0) then (if y3 = (posF p1) then (1 : Int32) else (0 : Int32)) else (0 : Int32)))] [(.int (if (posF p0) = x3 then (if (posF p1) = y3 then (1 : Int32) else (0 : Int32)) else (0 : Int32)))])) (fun _ kt_ => XS.iload X75.here hx rfl (hb hby at_208) rfl kt_) ?_
                  refine own_by (T' := T75) (g' := (mkF m 212 #[.val (.int p0), .val (.int p1), .val (.int p2), .val (.int p3), .val (.int p4), .val (.int (posF p0)), .val (.int (posF p1)), .val (.int x2), .val (.int y2), .val (.int (((p4.toUInt32 >>> ((2 : Int32) &&& 31).toUInt32).toInt32) &&& (7 : Int32))), .val (.ref b9), .val (.int x3), .val (.int y3), .val (.ref b45), .val (.int (0 : Int32)), .val (.int (if (posF p0) = x3 then (if (posF p1) = y3 then (1 : Int32) else (0 : Int32)) else (0 : Int32))), .val (.int (if x3 = (posF p0) then (if y3 = (posF p1) then (1 : Int32) else (0 : Int32)) else (0 : Int32)))] [(.int (0 : Int32)), (.int (if (posF p0) = x3 then (if (posF p1) = y3 then (1 : Int32) else (0 : Int32)) else (0 : Int32)))])) (fun _ kt_ => XS.iload X75.here hx rfl (hb hby at_210) rfl kt_) ?_
                  refine own_by (T' := T75) (g' := (mkF m 215 #[.val (.int p0), .val (.int p1), .val (.int p2), .val (.int p3), .val (.int p4), .val (.int (posF p0)), .val (.int (posF p1)), .val (.int x2), .val (.int y2), .val (.int (((p4.toUInt32 >>> ((2 : Int32) &&& 31).toUInt32).toInt32) &&& (7 : Int32))), .val (.ref b9), .val (.int x3), .val (.int y3), .val (.ref b45), .val (.int (0 : Int32)), .val (.int (if (posF p0) = x3 then (if (posF p1) = y3 then (1 : Int32) else (0 : Int32)) else (0 : Int32))), .val (.int (if x3 = (posF p0) then (if y3 = (posF p1) then (1 : Int32) else (0 : Int32)) else (0 : Int32)))] [])) (fun _ kt_ => XS.icmpNo X75.here hx rfl (hb hby at_212) rfl (XT.ii_ne_f (by simp [hc19, (Ne.symm hc19), hc25, (Ne.symm hc25), hc36, (Ne.symm hc36), hc55, hc56, (Ne.symm hc56)])) kt_) ?_
                  refine own_by (T' := T75) (g' := (mkF m 217 #[.val (.int p0), .val (.int p1), .val (.int p2), .val (.int p3), .val (.int p4), .val (.int (posF p0)), .val (.int (posF p1)), .val (.int x2), .val (.int y2), .val (.int (((p4.toUInt32 >>> ((2 : Int32) &&& 31).toUInt32).toInt32) &&& (7 : Int32))), .val (.ref b9), .val (.int x3), .val (.int y3), .val (.ref b45), .val (.int (0 : Int32)), .val (.int (if (posF p0) = x3 then (if (posF p1) = y3 then (1 : Int32) else (0 : Int32)) else (0 : Int32))), .val (.int (if x3 = (posF p0) then (if y3 = (posF p1) then (1 : Int32) else (0 : Int32)) else (0 : Int32)))] [(.int (if x3 = (posF p0) then (if y3 = (posF p1) then (1 : Int32) else (0 : Int32)) else (0 : Int32)))])) (fun _ kt_ => XS.iload X75.here hx rfl (hb hby at_215) rfl kt_) ?_
                  refine own_by (T' := T75) (g' := (mkF m 219 #[.val (.int p0), .val (.int p1), .val (.int p2), .val (.int p3), .val (.int p4), .val (.int (posF p0)), .val (.int (posF p1)), .val (.int x2), .val (.int y2), .val (.int (((p4.toUInt32 >>> ((2 : Int32) &&& 31).toUInt32).toInt32) &&& (7 : Int32))), .val (.ref b9), .val (.int x3), .val (.int y3), .val (.ref b45), .val (.int (0 : Int32)), .val (.int (if (posF p0) = x3 then (if (posF p1) = y3 then (1 : Int32) else (0 : Int32)) else (0 : Int32))), .val (.int (if x3 = (posF p0) then (if y3 = (posF p1) then (1 : Int32) else (0 : Int32)) else (0 : Int32)))] [(.int (0 : Int32)), (.int (if x3 = (posF p0) then (if y3 = (posF p1) then (1 : Int32) else (0 : Int32)) else (0 : Int32)))])) (fun _ kt_ => XS.iload X75.here hx rfl (hb hby at_217) rfl kt_) ?_
                  refine own_by (T' := T75) (g' := (mkF m 222 #[.val (.int p0), .val (.int p1), .val (.int p2), .val (.int p3), .val (.int p4), .val (.int (posF p0)), .val (.int (posF p1)), .val (.int x2), .val (.int y2), .val (.int (((p4.toUInt32 >>> ((2 : Int32) &&& 31).toUInt32).toInt32) &&& (7 : Int32))), .val (.ref b9), .val (.int x3), .val (.int y3), .val (.ref b45), .val (.int (0 : Int32)), .val (.int (if (posF p0) = x3 then (if (posF p1) = y3 then (1 : Int32) else (0 : Int32)) else (0 : Int32))), .val (.int (if x3 = (posF p0) then (if y3 = (posF p1) then (1 : Int32) else (0 : Int32)) else (0 : Int32)))] [])) (fun _ kt_ => XS.icmpNo X75.here hx rfl (hb hby at_219) rfl (XT.ii_ne_f (by simp [hc19, (Ne.symm hc19), hc25, (Ne.symm hc25), hc36, (Ne.symm hc36), hc55, hc56, (Ne.symm hc56)])) kt_) ?_
                  refine own_by (T' := T75) (g' := (mkF m 223 #[.val (.int p0), .val (.int p1), .val (.int p2), .val (.int p3), .val (.int p4), .val (.int (posF p0)), .val (.int (posF p1)), .val (.int x2), .val (.int y2), .val (.int (((p4.toUInt32 >>> ((2 : Int32) &&& 31).toUInt32).toInt32) &&& (7 : Int32))), .val (.ref b9), .val (.int x3), .val (.int y3), .val (.ref b45), .val (.int (0 : Int32)), .val (.int (if (posF p0) = x3 then (if (posF p1) = y3 then (1 : Int32) else (0 : Int32)) else (0 : Int32))), .val (.int (if x3 = (posF p0) then (if y3 = (posF p1) then (1 : Int32) else (0 : Int32)) else (0 : Int32)))] [(.int (1 : Int32))])) (fun _ kt_ => XS.iconst X75.here hx rfl (hb hby at_222) kt_) ?_
                  refine own_by (T' := T75) (g' := (mkF m 227 #[.val (.int p0), .val (.int p1), .val (.int p2), .val (.int p3), .val (.int p4), .val (.int (posF p0)), .val (.int (posF p1)), .val (.int x2), .val (.int y2), .val (.int (((p4.toUInt32 >>> ((2 : Int32) &&& 31).toUInt32).toInt32) &&& (7 : Int32))), .val (.ref b9), .val (.int x3), .val (.int y3), .val (.ref b45), .val (.int (0 : Int32)), .val (.int (if (posF p0) = x3 then (if (posF p1) = y3 then (1 : Int32) else (0 : Int32)) else (0 : Int32))), .val (.int (if x3 = (posF p0) then (if y3 = (posF p1) then (1 : Int32) else (0 : Int32)) else (0 : Int32)))] [(.int (1 : Int32))])) (fun _ kt_ => XS.goto X75.here hx rfl (pc0 := 223) (pc' := 227) rfl (hb hby at_223) (by decide) (by decide) kt_) ?_
                  have hn77 : nar .boolean (1 : Int32) = (1 : Int32) := rfl
                  obtain ⟨fs78, hr78, hrun78, hended78, hW78, hsame78⟩ := X75.leave (v := some (.int (nar .boolean (1 : Int32)))) (fun h => by rw [Bd.returns] at h; cases h)
                  refine ⟨_, _, retN X75 hx (t := .boolean) Bd.returns (by simp) (hb hby at_227) hr78, hrun78, hended78, _, _, rfl, ?_, ⟨_, rfl⟩, hW78, hsame78.mono (by decide) (by decide)⟩
                  show Q_rm0 Z wC cC p0 p1 p2 p3 p4 h0 n0 _ T75.heap _
                  exact ⟨(congrArg (fun z => some (Value.int z)) hn77), N76⟩
              · refine own_by (T' := T51) (g' := (mkF m 187 #[.val (.int p0), .val (.int p1), .val (.int p2), .val (.int p3), .val (.int p4), .val (.int (posF p0)), .val (.int (posF p1)), .val (.int x2), .val (.int y2), .val (.int (((p4.toUInt32 >>> ((2 : Int32) &&& 31).toUInt32).toInt32) &&& (7 : Int32))), .val (.ref b9), .val (.int x3), .val (.int y3), .val (.ref b45), .unset, .unset, .unset] [])) (fun _ kt_ => XS.icmpYes X51.here hx rfl (pc0 := 173) (pc' := 187) rfl (hb hby at_173) rfl (XT.ii_ne_t hc55) (by decide) (by decide) kt_) ?_
                refine own_by (T' := T51) (g' := (mkF m 188 #[.val (.int p0), .val (.int p1), .val (.int p2), .val (.int p3), .val (.int p4), .val (.int (posF p0)), .val (.int (posF p1)), .val (.int x2), .val (.int y2), .val (.int (((p4.toUInt32 >>> ((2 : Int32) &&& 31).toUInt32).toInt32) &&& (7 : Int32))), .val (.ref b9), .val (.int x3), .val (.int y3), .val (.ref b45), .unset, .unset, .unset] [(.int (0 : Int32))])) (fun _ kt_ => XS.iconst X51.here hx rfl (hb hby at_187) kt_) ?_
                refine own_by (T' := T51) (g' := (mkF m 190 #[.val (.int p0), .val (.int p1), .val (.int p2), .val (.int p3), .val (.int p4), .val (.int (posF p0)), .val (.int (posF p1)), .val (.int x2), .val (.int y2), .val (.int (((p4.toUInt32 >>> ((2 : Int32) &&& 31).toUInt32).toInt32) &&& (7 : Int32))), .val (.ref b9), .val (.int x3), .val (.int y3), .val (.ref b45), .val (.int (0 : Int32)), .unset, .unset] [])) (fun _ kt_ => XS.istore X51.here hx rfl (hb hby at_188) rfl (l' := #[.val (.int p0), .val (.int p1), .val (.int p2), .val (.int p3), .val (.int p4), .val (.int (posF p0)), .val (.int (posF p1)), .val (.int x2), .val (.int y2), .val (.int (((p4.toUInt32 >>> ((2 : Int32) &&& 31).toUInt32).toInt32) &&& (7 : Int32))), .val (.ref b9), .val (.int x3), .val (.int y3), .val (.ref b45), .val (.int (0 : Int32)), .unset, .unset]) rfl kt_) ?_
                refine own_by (T' := T51) (g' := (mkF m 192 #[.val (.int p0), .val (.int p1), .val (.int p2), .val (.int p3), .val (.int p4), .val (.int (posF p0)), .val (.int (posF p1)), .val (.int x2), .val (.int y2), .val (.int (((p4.toUInt32 >>> ((2 : Int32) &&& 31).toUInt32).toInt32) &&& (7 : Int32))), .val (.ref b9), .val (.int x3), .val (.int y3), .val (.ref b45), .val (.int (0 : Int32)), .unset, .unset] [(.ref b9)])) (fun _ kt_ => XS.aload X51.here hx rfl (hb hby at_190) rfl rfl kt_) ?_
                refine own_by (T' := T51) (g' := (mkF m 194 #[.val (.int p0), .val (.int p1), .val (.int p2), .val (.int p3), .val (.int p4), .val (.int (posF p0)), .val (.int (posF p1)), .val (.int x2), .val (.int y2), .val (.int (((p4.toUInt32 >>> ((2 : Int32) &&& 31).toUInt32).toInt32) &&& (7 : Int32))), .val (.ref b9), .val (.int x3), .val (.int y3), .val (.ref b45), .val (.int (0 : Int32)), .unset, .unset] [(.ref b45), (.ref b9)])) (fun _ kt_ => XS.aload X51.here hx rfl (hb hby at_192) rfl rfl kt_) ?_
                have f79 : Exa Z T51.heap b45 "com/example/even_commute/evencommute/comparison/LinkEnds" := (A45.keep K51)
                have ne80 : @Ne Nat b9 b45 := by omega
                have f81 : Fld Z T51.heap b9 "com/example/even_commute/evencommute/comparison/LinkEnds" "fromNode" "I" (.int (posF p0)) := ((p15_0.keep K46 nin0).keep K51 (ninS ne80 nin0))
                have f82 : Fld Z T51.heap b9 "com/example/even_commute/evencommute/comparison/LinkEnds" "toNode" "I" (.int (posF p1)) := ((p15_1.keep K46 nin0).keep K51 (ninS ne80 nin0))
                have f84 : Exa Z T51.heap b9 "com/example/even_commute/evencommute/comparison/LinkEnds" := (((A9.keep K15).keep K46).keep K51)
                obtain ⟨cq83, kq83, q83a, q83b, q83c⟩ := isOf hZ rfl f84
                obtain ⟨_, _, ⟨T83, L83, k83, n83⟩, -, X83, ⟨Lc83, hQ83, l83, y83, z83⟩, st83⟩ := X51.virtualBack hx (y := (⟨"com/example/even_commute/evencommute/comparison/LinkEnds", "equals", "(Ljava/lang/Object;)Z"⟩ : MethodName)) (z := (⟨"com/example/even_commute/evencommute/comparison/LinkEnds", "equals", "(Ljava/lang/Object;)Z"⟩ : MethodName)) hown (mvT hZ (hw _ (List.mem_of_getElem? (i := 18) rfl))) (mvT hZ (hw _ (List.mem_of_getElem? (i := 19) rfl))) (notFace_of_selects (args := #[]) (mvT hZ (hw _ (List.mem_of_getElem? (i := 21) rfl)))) (mvT hZ (hw _ (List.mem_of_getElem? (i := 21) rfl))) (mvT hZ (hw _ (List.mem_of_getElem? (i := 20) rfl))) (by decide) (backOf (W := 0) (rmEq l Z a0 hw [] wC cC GS b9 b45 (posF p0) (posF p1) x3 y3 T51.heap n0 (by omega) oo53 f79 f81 f82 p51_0 p51_1) hZ (hw _ (List.mem_of_getElem? (i := 22) rfl)) (hw _ (List.mem_of_getElem? (i := 7) rfl)) (by decide) (by decide)) q83a q83c (g := (mkF m 194 #[.val (.int p0), .val (.int p1), .val (.int p2), .val (.int p3), .val (.int p4), .val (.int (posF p0)), .val (.int (posF p1)), .val (.int x2), .val (.int y2), .val (.int (((p4.toUInt32 >>> ((2 : Int32) &&& 31).toUInt32).toInt32) &&& (7 : Int32))), .val (.ref b9), .val (.int x3), .val (.int y3), .val (.ref b45), .val (.int (0 : Int32)), .unset, .unset] [(.ref b45), (.ref b9)])) rfl (by rw [hml]; rfl) (Steps.refl _) (argsL := [(.ref b45)]) (rest := []) (lenOf own_pd_4 rfl) rfl (by show 2 * 0 + _ ≤ _; exact Nat.le_of_eq rfl) (hb hby at_194) (fun _ _ => ⟨rfl, rfl, (by decide : 2 + 0 ≤ _), (by decide : 4 + 0 ≤ _)⟩)
                dsimp only [Pt.U, Pt.locs, Pt.cells, Pt.slots] at X83 l83 y83 z83 st83 hQ83
                subst l83 y83 z83
                obtain ⟨rfl, N83q, e83⟩ := hQ83
                have N85 := Fr.app N52 N83q
                refine own_by (T' := T83) (g' := (mkF m 197 #[.val (.int p0), .val (.int p1), .val (.int p2), .val (.int p3), .val (.int p4), .val (.int (posF p0)), .val (.int (posF p1)), .val (.int x2), .val (.int y2), .val (.int (((p4.toUInt32 >>> ((2 : Int32) &&& 31).toUInt32).toInt32) &&& (7 : Int32))), .val (.ref b9), .val (.int x3), .val (.int y3), .val (.ref b45), .val (.int (0 : Int32)), .unset, .unset] [(.int (if (posF p0) = x3 then (if (posF p1) = y3 then (1 : Int32) else (0 : Int32)) else (0 : Int32)))])) (fun _ kt_ => st83.trans kt_) ?_
                refine own_by (T' := T83) (g' := (mkF m 199 #[.val (.int p0), .val (.int p1), .val (.int p2), .val (.int p3), .val (.int p4), .val (.int (posF p0)), .val (.int (posF p1)), .val (.int x2), .val (.int y2), .val (.int (((p4.toUInt32 >>> ((2 : Int32) &&& 31).toUInt32).toInt32) &&& (7 : Int32))), .val (.ref b9), .val (.int x3), .val (.int y3), .val (.ref b45), .val (.int (0 : Int32)), .val (.int (if (posF p0) = x3 then (if (posF p1) = y3 then (1 : Int32) else (0 : Int32)) else (0 : Int32))), .unset] [])) (fun _ kt_ => XS.istore X83.here hx rfl (hb hby at_197) rfl (l' := #[.val (.int p0), .val (.int p1), .val (.int p2), .val (.int p3), .val (.int p4), .val (.int (posF p0)), .val (.int (posF p1)), .val (.int x2), .val (.int y2), .val (.int (((p4.toUInt32 >>> ((2 : Int32) &&& 31).toUInt32).toInt32) &&& (7 : Int32))), .val (.ref b9), .val (.int x3), .val (.int y3), .val (.ref b45), .val (.int (0 : Int32)), .val (.int (if (posF p0) = x3 then (if (posF p1) = y3 then (1 : Int32) else (0 : Int32)) else (0 : Int32))), .unset]) rfl kt_) ?_
                refine own_by (T' := T83) (g' := (mkF m 201 #[.val (.int p0), .val (.int p1), .val (.int p2), .val (.int p3), .val (.int p4), .val (.int (posF p0)), .val (.int (posF p1)), .val (.int x2), .val (.int y2), .val (.int (((p4.toUInt32 >>> ((2 : Int32) &&& 31).toUInt32).toInt32) &&& (7 : Int32))), .val (.ref b9), .val (.int x3), .val (.int y3), .val (.ref b45), .val (.int (0 : Int32)), .val (.int (if (posF p0) = x3 then (if (posF p1) = y3 then (1 : Int32) else (0 : Int32)) else (0 : Int32))), .unset] [(.ref b45)])) (fun _ kt_ => XS.aload X83.here hx rfl (hb hby at_199) rfl rfl kt_) ?_
                refine own_by (T' := T83) (g' := (mkF m 203 #[.val (.int p0), .val (.int p1), .val (.int p2), .val (.int p3), .val (.int p4), .val (.int (posF p0)), .val (.int (posF p1)), .val (.int x2), .val (.int y2), .val (.int (((p4.toUInt32 >>> ((2 : Int32) &&& 31).toUInt32).toInt32) &&& (7 : Int32))), .val (.ref b9), .val (.int x3), .val (.int y3), .val (.ref b45), .val (.int (0 : Int32)), .val (.int (if (posF p0) = x3 then (if (posF p1) = y3 then (1 : Int32) else (0 : Int32)) else (0 : Int32))), .unset] [(.ref b9), (.ref b45)])) (fun _ kt_ => XS.aload X83.here hx rfl (hb hby at_201) rfl rfl kt_) ?_
                obtain ⟨cq86, kq86, q86a, q86b, q86c⟩ := isOf hZ e83 f79
                obtain ⟨_, _, ⟨T86, L86, k86, n86⟩, -, X86, ⟨Lc86, hQ86, l86, y86, z86⟩, st86⟩ := X83.virtualBack hx (y := (⟨"com/example/even_commute/evencommute/comparison/LinkEnds", "equals", "(Ljava/lang/Object;)Z"⟩ : MethodName)) (z := (⟨"com/example/even_commute/evencommute/comparison/LinkEnds", "equals", "(Ljava/lang/Object;)Z"⟩ : MethodName)) hown (mvT hZ (hw _ (List.mem_of_getElem? (i := 18) rfl))) (mvT hZ (hw _ (List.mem_of_getElem? (i := 19) rfl))) (notFace_of_selects (args := #[]) (mvT hZ (hw _ (List.mem_of_getElem? (i := 21) rfl)))) (mvT hZ (hw _ (List.mem_of_getElem? (i := 21) rfl))) (mvT hZ (hw _ (List.mem_of_getElem? (i := 20) rfl))) (by decide) (backOf (W := 0) (rmEq l Z a0 hw [] wC cC GS b45 b9 x3 y3 (posF p0) (posF p1) T51.heap n0 (by omega) oo53 f84 p51_0 p51_1 f81 f82) hZ (hw _ (List.mem_of_getElem? (i := 22) rfl)) (hw _ (List.mem_of_getElem? (i := 7) rfl)) (by decide) (by decide)) q86a q86c (g := (mkF m 203 #[.val (.int p0), .val (.int p1), .val (.int p2), .val (.int p3), .val (.int p4), .val (.int (posF p0)), .val (.int (posF p1)), .val (.int x2), .val (.int y2), .val (.int (((p4.toUInt32 >>> ((2 : Int32) &&& 31).toUInt32).toInt32) &&& (7 : Int32))), .val (.ref b9), .val (.int x3), .val (.int y3), .val (.ref b45), .val (.int (0 : Int32)), .val (.int (if (posF p0) = x3 then (if (posF p1) = y3 then (1 : Int32) else (0 : Int32)) else (0 : Int32))), .unset] [(.ref b9), (.ref b45)])) rfl (by rw [hml]; rfl) (Steps.refl _) (argsL := [(.ref b9)]) (rest := []) (lenOf own_pd_4 rfl) rfl (by show 2 * 0 + _ ≤ _; exact Nat.le_of_eq rfl) (hb hby at_203) (fun _ _ => ⟨rfl, e83, (by decide : 2 + 0 ≤ _), (by decide : 4 + 0 ≤ _)⟩)
                dsimp only [Pt.U, Pt.locs, Pt.cells, Pt.slots] at X86 l86 y86 z86 st86 hQ86
                subst l86 y86 z86
                obtain ⟨rfl, N86q, e86⟩ := hQ86
                have N87 := Fr.app N85 N86q
                refine own_by (T' := T86) (g' := (mkF m 206 #[.val (.int p0), .val (.int p1), .val (.int p2), .val (.int p3), .val (.int p4), .val (.int (posF p0)), .val (.int (posF p1)), .val (.int x2), .val (.int y2), .val (.int (((p4.toUInt32 >>> ((2 : Int32) &&& 31).toUInt32).toInt32) &&& (7 : Int32))), .val (.ref b9), .val (.int x3), .val (.int y3), .val (.ref b45), .val (.int (0 : Int32)), .val (.int (if (posF p0) = x3 then (if (posF p1) = y3 then (1 : Int32) else (0 : Int32)) else (0 : Int32))), .unset] [(.int (if x3 = (posF p0) then (if y3 = (posF p1) then (1 : Int32) else (0 : Int32)) else (0 : Int32)))])) (fun _ kt_ => st86.trans kt_) ?_
                refine own_by (T' := T86) (g' := (mkF m 208 #[.val (.int p0), .val (.int p1), .val (.int p2), .val (.int p3), .val (.int p4), .val (.int (posF p0)), .val (.int (posF p1)), .val (.int x2), .val (.int y2), .val (.int (((p4.toUInt32 >>> ((2 : Int32) &&& 31).toUInt32).toInt32) &&& (7 : Int32))), .val (.ref b9), .val (.int x3), .val (.int y3), .val (.ref b45), .val (.int (0 : Int32)), .val (.int (if (posF p0) = x3 then (if (posF p1) = y3 then (1 : Int32) else (0 : Int32)) else (0 : Int32))), .val (.int (if x3 = (posF p0) then (if y3 = (posF p1) then (1 : Int32) else (0 : Int32)) else (0 : Int32)))] [])) (fun _ kt_ => XS.istore X86.here hx rfl (hb hby at_206) rfl (l' := #[.val (.int p0), .val (.int p1), .val (.int p2), .val (.int p3), .val (.int p4), .val (.int (posF p0)), .val (.int (posF p1)), .val (.int x2), .val (.int y2), .val (.int (((p4.toUInt32 >>> ((2 : Int32) &&& 31).toUInt32).toInt32) &&& (7 : Int32))), .val (.ref b9), .val (.int x3), .val (.int y3), .val (.ref b45), .val (.int (0 : Int32)), .val (.int (if (posF p0) = x3 then (if (posF p1) = y3 then (1 : Int32) else (0 : Int32)) else (0 : Int32))), .val (.int (if x3 = (posF p0) then (if y3 = (posF p1) then (1 : Int32) else (0 : Int32)) else (0 : Int32)))]) rfl kt_) ?_
                refine own_by (T' := T86) (g' := (mkF m 210 #[.val (.int p0), .val (.int p1), .val (.int p2), .val (.int p3), .val (.int p4), .val (.int (posF p0)), .val (.int (posF p1)), .val (.int x2), .val (.int y2), .val (.int (((p4.toUInt32 >>> ((2 : Int32) &&& 31).toUInt32).toInt32) &&& (7 : Int32))), .val (.ref b9), .val (.int x3), .val (.int y3), .val (.ref b45), .val (.int (0 : Int32)), .val (.int (if (posF p0) = x3 then (if (posF p1) = y3 then (1 : Int32) else (0 : Int32)) else (0 : Int32))), .val (.int (if x3 = (posF p0) then (if y3 = (posF p1) then (1 : Int32) else (0 : Int32)) else (0 : Int32)))] [(.int (if (posF p0) = x3 then (if (posF p1) = y3 then (1 : Int32) else (0 : Int32)) else (0 : Int32)))])) (fun _ kt_ => XS.iload X86.here hx rfl (hb hby at_208) rfl kt_) ?_
                refine own_by (T' := T86) (g' := (mkF m 212 #[.val (.int p0), .val (.int p1), .val (.int p2), .val (.int p3), .val (.int p4), .val (.int (posF p0)), .val (.int (posF p1)), .val (.int x2), .val (.int y2), .val (.int (((p4.toUInt32 >>> ((2 : Int32) &&& 31).toUInt32).toInt32) &&& (7 : Int32))), .val (.ref b9), .val (.int x3), .val (.int y3), .val (.ref b45), .val (.int (0 : Int32)), .val (.int (if (posF p0) = x3 then (if (posF p1) = y3 then (1 : Int32) else (0 : Int32)) else (0 : Int32))), .val (.int (if x3 = (posF p0) then (if y3 = (posF p1) then (1 : Int32) else (0 : Int32)) else (0 : Int32)))] [(.int (0 : Int32)), (.int (if (posF p0) = x3 then (if (posF p1) = y3 then (1 : Int32) else (0 : Int32)) else (0 : Int32)))])) (fun _ kt_ => XS.iload X86.here hx rfl (hb hby at_210) rfl kt_) ?_
                refine own_by (T' := T86) (g' := (mkF m 215 #[.val (.int p0), .val (.int p1), .val (.int p2), .val (.int p3), .val (.int p4), .val (.int (posF p0)), .val (.int (posF p1)), .val (.int x2), .val (.int y2), .val (.int (((p4.toUInt32 >>> ((2 : Int32) &&& 31).toUInt32).toInt32) &&& (7 : Int32))), .val (.ref b9), .val (.int x3), .val (.int y3), .val (.ref b45), .val (.int (0 : Int32)), .val (.int (if (posF p0) = x3 then (if (posF p1) = y3 then (1 : Int32) else (0 : Int32)) else (0 : Int32))), .val (.int (if x3 = (posF p0) then (if y3 = (posF p1) then (1 : Int32) else (0 : Int32)) else (0 : Int32)))] [])) (fun _ kt_ => XS.icmpNo X86.here hx rfl (hb hby at_212) rfl (XT.ii_ne_f (by simp [hc19, (Ne.symm hc19), hc25, (Ne.symm hc25), hc36, (Ne.symm hc36), hc55, (Ne.symm hc55)])) kt_) ?_
                refine own_by (T' := T86) (g' := (mkF m 217 #[.val (.int p0), .val (.int p1), .val (.int p2), .val (.int p3), .val (.int p4), .val (.int (posF p0)), .val (.int (posF p1)), .val (.int x2), .val (.int y2), .val (.int (((p4.toUInt32 >>> ((2 : Int32) &&& 31).toUInt32).toInt32) &&& (7 : Int32))), .val (.ref b9), .val (.int x3), .val (.int y3), .val (.ref b45), .val (.int (0 : Int32)), .val (.int (if (posF p0) = x3 then (if (posF p1) = y3 then (1 : Int32) else (0 : Int32)) else (0 : Int32))), .val (.int (if x3 = (posF p0) then (if y3 = (posF p1) then (1 : Int32) else (0 : Int32)) else (0 : Int32)))] [(.int (if x3 = (posF p0) then (if y3 = (posF p1) then (1 : Int32) else (0 : Int32)) else (0 : Int32)))])) (fun _ kt_ => XS.iload X86.here hx rfl (hb hby at_215) rfl kt_) ?_
                refine own_by (T' := T86) (g' := (mkF m 219 #[.val (.int p0), .val (.int p1), .val (.int p2), .val (.int p3), .val (.int p4), .val (.int (posF p0)), .val (.int (posF p1)), .val (.int x2), .val (.int y2), .val (.int (((p4.toUInt32 >>> ((2 : Int32) &&& 31).toUInt32).toInt32) &&& (7 : Int32))), .val (.ref b9), .val (.int x3), .val (.int y3), .val (.ref b45), .val (.int (0 : Int32)), .val (.int (if (posF p0) = x3 then (if (posF p1) = y3 then (1 : Int32) else (0 : Int32)) else (0 : Int32))), .val (.int (if x3 = (posF p0) then (if y3 = (posF p1) then (1 : Int32) else (0 : Int32)) else (0 : Int32)))] [(.int (0 : Int32)), (.int (if x3 = (posF p0) then (if y3 = (posF p1) then (1 : Int32) else (0 : Int32)) else (0 : Int32)))])) (fun _ kt_ => XS.iload X86.here hx rfl (hb hby at_217) rfl kt_) ?_
                refine own_by (T' := T86) (g' := (mkF m 222 #[.val (.int p0), .val (.int p1), .val (.int p2), .val (.int p3), .val (.int p4), .val (.int (posF p0)), .val (.int (posF p1)), .val (.int x2), .val (.int y2), .val (.int (((p4.toUInt32 >>> ((2 : Int32) &&& 31).toUInt32).toInt32) &&& (7 : Int32))), .val (.ref b9), .val (.int x3), .val (.int y3), .val (.ref b45), .val (.int (0 : Int32)), .val (.int (if (posF p0) = x3 then (if (posF p1) = y3 then (1 : Int32) else (0 : Int32)) else (0 : Int32))), .val (.int (if x3 = (posF p0) then (if y3 = (posF p1) then (1 : Int32) else (0 : Int32)) else (0 : Int32)))] [])) (fun _ kt_ => XS.icmpNo X86.here hx rfl (hb hby at_219) rfl (XT.ii_ne_f (by simp [hc19, (Ne.symm hc19), hc25, (Ne.symm hc25), hc36, (Ne.symm hc36), hc55, (Ne.symm hc55)])) kt_) ?_
                refine own_by (T' := T86) (g' := (mkF m 223 #[.val (.int p0), .val (.int p1), .val (.int p2), .val (.int p3), .val (.int p4), .val (.int (posF p0)), .val (.int (posF p1)), .val (.int x2), .val (.int y2), .val (.int (((p4.toUInt32 >>> ((2 : Int32) &&& 31).toUInt32).toInt32) &&& (7 : Int32))), .val (.ref b9), .val (.int x3), .val (.int y3), .val (.ref b45), .val (.int (0 : Int32)), .val (.int (if (posF p0) = x3 then (if (posF p1) = y3 then (1 : Int32) else (0 : Int32)) else (0 : Int32))), .val (.int (if x3 = (posF p0) then (if y3 = (posF p1) then (1 : Int32) else (0 : Int32)) else (0 : Int32)))] [(.int (1 : Int32))])) (fun _ kt_ => XS.iconst X86.here hx rfl (hb hby at_222) kt_) ?_
                refine own_by (T' := T86) (g' := (mkF m 227 #[.val (.int p0), .val (.int p1), .val (.int p2), .val (.int p3), .val (.int p4), .val (.int (posF p0)), .val (.int (posF p1)), .val (.int x2), .val (.int y2), .val (.int (((p4.toUInt32 >>> ((2 : Int32) &&& 31).toUInt32).toInt32) &&& (7 : Int32))), .val (.ref b9), .val (.int x3), .val (.int y3), .val (.ref b45), .val (.int (0 : Int32)), .val (.int (if (posF p0) = x3 then (if (posF p1) = y3 then (1 : Int32) else (0 : Int32)) else (0 : Int32))), .val (.int (if x3 = (posF p0) then (if y3 = (posF p1) then (1 : Int32) else (0 : Int32)) else (0 : Int32)))] [(.int (1 : Int32))])) (fun _ kt_ => XS.goto X86.here hx rfl (pc0 := 223) (pc' := 227) rfl (hb hby at_223) (by decide) (by decide) kt_) ?_
                have hn88 : nar .boolean (1 : Int32) = (1 : Int32) := rfl
                obtain ⟨fs89, hr89, hrun89, hended89, hW89, hsame89⟩ := X86.leave (v := some (.int (nar .boolean (1 : Int32)))) (fun h => by rw [Bd.returns] at h; cases h)
                refine ⟨_, _, retN X86 hx (t := .boolean) Bd.returns (by simp) (hb hby at_227) hr89, hrun89, hended89, _, _, rfl, ?_, ⟨_, rfl⟩, hW89, hsame89.mono (by decide) (by decide)⟩
                show Q_rm0 Z wC cC p0 p1 p2 p3 p4 h0 n0 _ T86.heap _
                exact ⟨(congrArg (fun z => some (Value.int z)) hn88), N87⟩
            refine own_by (T' := T15) (g' := (mkF m 144 #[.val (.int p0), .val (.int p1), .val (.int p2), .val (.int p3), .val (.int p4), .val (.int (posF p0)), .val (.int (posF p1)), .val (.int x2), .val (.int y2), .val (.int (((p4.toUInt32 >>> ((2 : Int32) &&& 31).toUInt32).toInt32) &&& (7 : Int32))), .val (.ref b9), .val (.int x2), .val (.int y2), .unset, .unset, .unset, .unset] [(.int (((p4.toUInt32 >>> ((2 : Int32) &&& 31).toUInt32).toInt32) &&& (7 : Int32)))])) (fun _ kt_ => XS.iload X15.here hx rfl (hb hby at_142) rfl kt_) ?_
            refine own_by (T' := T15) (g' := (mkF m 145 #[.val (.int p0), .val (.int p1), .val (.int p2), .val (.int p3), .val (.int p4), .val (.int (posF p0)), .val (.int (posF p1)), .val (.int x2), .val (.int y2), .val (.int (((p4.toUInt32 >>> ((2 : Int32) &&& 31).toUInt32).toInt32) &&& (7 : Int32))), .val (.ref b9), .val (.int x2), .val (.int y2), .unset, .unset, .unset, .unset] [(.int (5 : Int32)), (.int (((p4.toUInt32 >>> ((2 : Int32) &&& 31).toUInt32).toInt32) &&& (7 : Int32)))])) (fun _ kt_ => XS.iconst X15.here hx rfl (hb hby at_144) kt_) ?_
            by_cases hc90 : (((p4.toUInt32 >>> ((2 : Int32) &&& 31).toUInt32).toInt32) &&& (7 : Int32)) = (5 : Int32)
            · refine own_by (T' := T15) (g' := (mkF m 148 #[.val (.int p0), .val (.int p1), .val (.int p2), .val (.int p3), .val (.int p4), .val (.int (posF p0)), .val (.int (posF p1)), .val (.int x2), .val (.int y2), .val (.int (((p4.toUInt32 >>> ((2 : Int32) &&& 31).toUInt32).toInt32) &&& (7 : Int32))), .val (.ref b9), .val (.int x2), .val (.int y2), .unset, .unset, .unset, .unset] [])) (fun _ kt_ => XS.icmpNo X15.here hx rfl (hb hby at_145) rfl (XT.ii_ne_f hc90) kt_) ?_
              refine own_by (T' := T15) (g' := (mkF m 150 #[.val (.int p0), .val (.int p1), .val (.int p2), .val (.int p3), .val (.int p4), .val (.int (posF p0)), .val (.int (posF p1)), .val (.int x2), .val (.int y2), .val (.int (((p4.toUInt32 >>> ((2 : Int32) &&& 31).toUInt32).toInt32) &&& (7 : Int32))), .val (.ref b9), .val (.int x2), .val (.int y2), .unset, .unset, .unset, .unset] [(.int (posF p1))])) (fun _ kt_ => XS.iload X15.here hx rfl (hb hby at_148) rfl kt_) ?_
              refine own_by (T' := T15) (g' := (mkF m 152 #[.val (.int p0), .val (.int p1), .val (.int p2), .val (.int p3), .val (.int p4), .val (.int (posF p0)), .val (.int (posF p1)), .val (.int x2), .val (.int y2), .val (.int (((p4.toUInt32 >>> ((2 : Int32) &&& 31).toUInt32).toInt32) &&& (7 : Int32))), .val (.ref b9), .val (.int (posF p1)), .val (.int y2), .unset, .unset, .unset, .unset] [])) (fun _ kt_ => XS.istore X15.here hx rfl (hb hby at_150) rfl (l' := #[.val (.int p0), .val (.int p1), .val (.int p2), .val (.int p3), .val (.int p4), .val (.int (posF p0)), .val (.int (posF p1)), .val (.int x2), .val (.int y2), .val (.int (((p4.toUInt32 >>> ((2 : Int32) &&& 31).toUInt32).toInt32) &&& (7 : Int32))), .val (.ref b9), .val (.int (posF p1)), .val (.int y2), .unset, .unset, .unset, .unset]) rfl kt_) ?_
              refine own_by (T' := T15) (g' := (mkF m 154 #[.val (.int p0), .val (.int p1), .val (.int p2), .val (.int p3), .val (.int p4), .val (.int (posF p0)), .val (.int (posF p1)), .val (.int x2), .val (.int y2), .val (.int (((p4.toUInt32 >>> ((2 : Int32) &&& 31).toUInt32).toInt32) &&& (7 : Int32))), .val (.ref b9), .val (.int (posF p1)), .val (.int y2), .unset, .unset, .unset, .unset] [(.int (posF p0))])) (fun _ kt_ => XS.iload X15.here hx rfl (hb hby at_152) rfl kt_) ?_
              refine own_by (T' := T15) (g' := (mkF m 156 #[.val (.int p0), .val (.int p1), .val (.int p2), .val (.int p3), .val (.int p4), .val (.int (posF p0)), .val (.int (posF p1)), .val (.int x2), .val (.int y2), .val (.int (((p4.toUInt32 >>> ((2 : Int32) &&& 31).toUInt32).toInt32) &&& (7 : Int32))), .val (.ref b9), .val (.int (posF p1)), .val (.int (posF p0)), .unset, .unset, .unset, .unset] [])) (fun _ kt_ => XS.istore X15.here hx rfl (hb hby at_154) rfl (l' := #[.val (.int p0), .val (.int p1), .val (.int p2), .val (.int p3), .val (.int p4), .val (.int (posF p0)), .val (.int (posF p1)), .val (.int x2), .val (.int y2), .val (.int (((p4.toUInt32 >>> ((2 : Int32) &&& 31).toUInt32).toInt32) &&& (7 : Int32))), .val (.ref b9), .val (.int (posF p1)), .val (.int (posF p0)), .unset, .unset, .unset, .unset]) rfl kt_) ?_
              exact J43 T15 _  X15 rfl  N16 (posF p1) (posF p0)  ⟨(own_pos _), (own_pos _)⟩
            · refine own_by (T' := T15) (g' := (mkF m 156 #[.val (.int p0), .val (.int p1), .val (.int p2), .val (.int p3), .val (.int p4), .val (.int (posF p0)), .val (.int (posF p1)), .val (.int x2), .val (.int y2), .val (.int (((p4.toUInt32 >>> ((2 : Int32) &&& 31).toUInt32).toInt32) &&& (7 : Int32))), .val (.ref b9), .val (.int x2), .val (.int y2), .unset, .unset, .unset, .unset] [])) (fun _ kt_ => XS.icmpYes X15.here hx rfl (pc0 := 145) (pc' := 156) rfl (hb hby at_145) rfl (XT.ii_ne_t hc90) (by decide) (by decide) kt_) ?_
              exact J43 T15 _  X15 rfl  N16 x2 y2  ⟨hj6, hj8⟩
    refine own_by (T' := T5) (g' := (mkF m 32 #[.val (.int p0), .val (.int p1), .val (.int p2), .val (.int p3), .val (.int p4), .val (.int (posF p0)), .val (.int (posF p1)), .val (.int x2), .unset, .unset, .unset, .unset, .unset, .unset, .unset, .unset, .unset] [(.int p4)])) (fun _ kt_ => XS.iload X5.here hx rfl (hb hby at_30) rfl kt_) ?_
    refine own_by (T' := T5) (g' := (mkF m 33 #[.val (.int p0), .val (.int p1), .val (.int p2), .val (.int p3), .val (.int p4), .val (.int (posF p0)), .val (.int (posF p1)), .val (.int x2), .unset, .unset, .unset, .unset, .unset, .unset, .unset, .unset, .unset] [(.int (2 : Int32)), (.int p4)])) (fun _ kt_ => XS.iconst X5.here hx rfl (hb hby at_32) kt_) ?_
    refine own_by (T' := T5) (g' := (mkF m 34 #[.val (.int p0), .val (.int p1), .val (.int p2), .val (.int p3), .val (.int p4), .val (.int (posF p0)), .val (.int (posF p1)), .val (.int x2), .unset, .unset, .unset, .unset, .unset, .unset, .unset, .unset, .unset] [(.int (p4 &&& (2 : Int32)))])) (fun _ kt_ => XS.iand X5.here hx rfl (hb hby at_33) rfl kt_) ?_
    by_cases hc91 : (p4 &&& (2 : Int32)) = (0 : Int32)
    · refine own_by (T' := T5) (g' := (mkF m 42 #[.val (.int p0), .val (.int p1), .val (.int p2), .val (.int p3), .val (.int p4), .val (.int (posF p0)), .val (.int (posF p1)), .val (.int x2), .unset, .unset, .unset, .unset, .unset, .unset, .unset, .unset, .unset] [])) (fun _ kt_ => XS.ifYes X5.here hx rfl (pc0 := 34) (pc' := 42) rfl (hb hby at_34) rfl (XT.i0_eq_t hc91) (by decide) (by decide) kt_) ?_
      refine own_by (T' := T5) (g' := (mkF m 43 #[.val (.int p0), .val (.int p1), .val (.int p2), .val (.int p3), .val (.int p4), .val (.int (posF p0)), .val (.int (posF p1)), .val (.int x2), .unset, .unset, .unset, .unset, .unset, .unset, .unset, .unset, .unset] [(.int p3)])) (fun _ kt_ => XS.iloadN X5.here hx rfl (hb hby at_42) rfl kt_) ?_
      obtain ⟨_, _, ⟨T92, L92, k92, n92⟩, -, X92, ⟨Lc92, hQ92, l92, y92, z92⟩, st92⟩ := Jvm.LawKit.callS X5 hx (y := (⟨"com/example/even_commute/evencommute/comparison/LinkEndsEqualsPinLaw", "pos", "(I)I"⟩ : MethodName)) hown (mvT hZ (hw _ (List.mem_of_getElem? (i := 0) rfl))) (mvT hZ (hw _ (List.mem_of_getElem? (i := 1) rfl))) (mvT hZ (hw _ (List.mem_of_getElem? (i := 2) rfl))) (mvT hZ (hw _ (List.mem_of_getElem? (i := 3) rfl))) (by decide) (backOf (W := 0) (rmPos l Z a0 hw [] wC cC GS p3 h0 n0 (by omega) O0 ) hZ (hw _ (List.mem_of_getElem? (i := 3) rfl)) (hw _ (List.mem_of_getElem? (i := 2) rfl)) (by decide) (by decide)) (g := (mkF m 43 #[.val (.int p0), .val (.int p1), .val (.int p2), .val (.int p3), .val (.int p4), .val (.int (posF p0)), .val (.int (posF p1)), .val (.int x2), .unset, .unset, .unset, .unset, .unset, .unset, .unset, .unset, .unset] [(.int p3)])) rfl (by rw [hml]; rfl) (argsL := [(.int p3)]) (rest := []) (lenOf own_pd_2 rfl) rfl (by show 2 * 0 + _ ≤ _; exact Nat.le_of_eq rfl) (hb hby at_43) (fun _ _ => ⟨rfl, e5, (by decide : 0 + 0 ≤ _), (by decide : 0 + 0 ≤ _)⟩)
      dsimp only [Pt.U, Pt.locs, Pt.cells, Pt.slots] at X92 l92 y92 z92 st92 hQ92
      subst l92 y92 z92
      obtain ⟨rfl, N92q, e92⟩ := hQ92
      have N93 := Fr.app N5 N92q
      refine own_by (T' := T92) (g' := (mkF m 46 #[.val (.int p0), .val (.int p1), .val (.int p2), .val (.int p3), .val (.int p4), .val (.int (posF p0)), .val (.int (posF p1)), .val (.int x2), .unset, .unset, .unset, .unset, .unset, .unset, .unset, .unset, .unset] [(.int (posF p3))])) st92 ?_
      exact J7 T92 _  X92 e92  N93 (posF p3)  (own_pos _)
    · refine own_by (T' := T5) (g' := (mkF m 37 #[.val (.int p0), .val (.int p1), .val (.int p2), .val (.int p3), .val (.int p4), .val (.int (posF p0)), .val (.int (posF p1)), .val (.int x2), .unset, .unset, .unset, .unset, .unset, .unset, .unset, .unset, .unset] [])) (fun _ kt_ => XS.ifNo X5.here hx rfl (hb hby at_34) rfl (XT.i0_eq_f hc91) kt_) ?_
      refine own_by (T' := T5) (g' := (mkF m 39 #[.val (.int p0), .val (.int p1), .val (.int p2), .val (.int p3), .val (.int p4), .val (.int (posF p0)), .val (.int (posF p1)), .val (.int x2), .unset, .unset, .unset, .unset, .unset, .unset, .unset, .unset, .unset] [(.int (posF p1))])) (fun _ kt_ => XS.iload X5.here hx rfl (hb hby at_37) rfl kt_) ?_
      refine own_by (T' := T5) (g' := (mkF m 46 #[.val (.int p0), .val (.int p1), .val (.int p2), .val (.int p3), .val (.int p4), .val (.int (posF p0)), .val (.int (posF p1)), .val (.int x2), .unset, .unset, .unset, .unset, .unset, .unset, .unset, .unset, .unset] [(.int (posF p1))])) (fun _ kt_ => XS.goto X5.here hx rfl (pc0 := 39) (pc' := 46) rfl (hb hby at_39) (by decide) (by decide) kt_) ?_
      exact J7 T5 _  X5 e5  N5 (posF p1)  (own_pos _)
  refine own_by (T' := T3) (g' := (mkF m 14 #[.val (.int p0), .val (.int p1), .val (.int p2), .val (.int p3), .val (.int p4), .val (.int (posF p0)), .val (.int (posF p1)), .unset, .unset, .unset, .unset, .unset, .unset, .unset, .unset, .unset, .unset] [(.int p4)])) (fun _ kt_ => XS.iload X3.here hx rfl (hb hby at_12) rfl kt_) ?_
  refine own_by (T' := T3) (g' := (mkF m 15 #[.val (.int p0), .val (.int p1), .val (.int p2), .val (.int p3), .val (.int p4), .val (.int (posF p0)), .val (.int (posF p1)), .unset, .unset, .unset, .unset, .unset, .unset, .unset, .unset, .unset, .unset] [(.int (1 : Int32)), (.int p4)])) (fun _ kt_ => XS.iconst X3.here hx rfl (hb hby at_14) kt_) ?_
  refine own_by (T' := T3) (g' := (mkF m 16 #[.val (.int p0), .val (.int p1), .val (.int p2), .val (.int p3), .val (.int p4), .val (.int (posF p0)), .val (.int (posF p1)), .unset, .unset, .unset, .unset, .unset, .unset, .unset, .unset, .unset, .unset] [(.int (p4 &&& (1 : Int32)))])) (fun _ kt_ => XS.iand X3.here hx rfl (hb hby at_15) rfl kt_) ?_
  by_cases hc94 : (p4 &&& (1 : Int32)) = (0 : Int32)
  · refine own_by (T' := T3) (g' := (mkF m 24 #[.val (.int p0), .val (.int p1), .val (.int p2), .val (.int p3), .val (.int p4), .val (.int (posF p0)), .val (.int (posF p1)), .unset, .unset, .unset, .unset, .unset, .unset, .unset, .unset, .unset, .unset] [])) (fun _ kt_ => XS.ifYes X3.here hx rfl (pc0 := 16) (pc' := 24) rfl (hb hby at_16) rfl (XT.i0_eq_t hc94) (by decide) (by decide) kt_) ?_
    refine own_by (T' := T3) (g' := (mkF m 25 #[.val (.int p0), .val (.int p1), .val (.int p2), .val (.int p3), .val (.int p4), .val (.int (posF p0)), .val (.int (posF p1)), .unset, .unset, .unset, .unset, .unset, .unset, .unset, .unset, .unset, .unset] [(.int p2)])) (fun _ kt_ => XS.iloadN X3.here hx rfl (hb hby at_24) rfl kt_) ?_
    obtain ⟨_, _, ⟨T95, L95, k95, n95⟩, -, X95, ⟨Lc95, hQ95, l95, y95, z95⟩, st95⟩ := Jvm.LawKit.callS X3 hx (y := (⟨"com/example/even_commute/evencommute/comparison/LinkEndsEqualsPinLaw", "pos", "(I)I"⟩ : MethodName)) hown (mvT hZ (hw _ (List.mem_of_getElem? (i := 0) rfl))) (mvT hZ (hw _ (List.mem_of_getElem? (i := 1) rfl))) (mvT hZ (hw _ (List.mem_of_getElem? (i := 2) rfl))) (mvT hZ (hw _ (List.mem_of_getElem? (i := 3) rfl))) (by decide) (backOf (W := 0) (rmPos l Z a0 hw [] wC cC GS p2 h0 n0 (by omega) O0 ) hZ (hw _ (List.mem_of_getElem? (i := 3) rfl)) (hw _ (List.mem_of_getElem? (i := 2) rfl)) (by decide) (by decide)) (g := (mkF m 25 #[.val (.int p0), .val (.int p1), .val (.int p2), .val (.int p3), .val (.int p4), .val (.int (posF p0)), .val (.int (posF p1)), .unset, .unset, .unset, .unset, .unset, .unset, .unset, .unset, .unset, .unset] [(.int p2)])) rfl (by rw [hml]; rfl) (argsL := [(.int p2)]) (rest := []) (lenOf own_pd_2 rfl) rfl (by show 2 * 0 + _ ≤ _; exact Nat.le_of_eq rfl) (hb hby at_25) (fun _ _ => ⟨rfl, e3, (by decide : 0 + 0 ≤ _), (by decide : 0 + 0 ≤ _)⟩)
    dsimp only [Pt.U, Pt.locs, Pt.cells, Pt.slots] at X95 l95 y95 z95 st95 hQ95
    subst l95 y95 z95
    obtain ⟨rfl, N95q, e95⟩ := hQ95
    have N96 := Fr.app N4 N95q
    refine own_by (T' := T95) (g' := (mkF m 28 #[.val (.int p0), .val (.int p1), .val (.int p2), .val (.int p3), .val (.int p4), .val (.int (posF p0)), .val (.int (posF p1)), .unset, .unset, .unset, .unset, .unset, .unset, .unset, .unset, .unset, .unset] [(.int (posF p2))])) st95 ?_
    exact J5 T95 _  X95 e95  N96 (posF p2)  (own_pos _)
  · refine own_by (T' := T3) (g' := (mkF m 19 #[.val (.int p0), .val (.int p1), .val (.int p2), .val (.int p3), .val (.int p4), .val (.int (posF p0)), .val (.int (posF p1)), .unset, .unset, .unset, .unset, .unset, .unset, .unset, .unset, .unset, .unset] [])) (fun _ kt_ => XS.ifNo X3.here hx rfl (hb hby at_16) rfl (XT.i0_eq_f hc94) kt_) ?_
    refine own_by (T' := T3) (g' := (mkF m 21 #[.val (.int p0), .val (.int p1), .val (.int p2), .val (.int p3), .val (.int p4), .val (.int (posF p0)), .val (.int (posF p1)), .unset, .unset, .unset, .unset, .unset, .unset, .unset, .unset, .unset, .unset] [(.int (posF p0))])) (fun _ kt_ => XS.iload X3.here hx rfl (hb hby at_19) rfl kt_) ?_
    refine own_by (T' := T3) (g' := (mkF m 28 #[.val (.int p0), .val (.int p1), .val (.int p2), .val (.int p3), .val (.int p4), .val (.int (posF p0)), .val (.int (posF p1)), .unset, .unset, .unset, .unset, .unset, .unset, .unset, .unset, .unset, .unset] [(.int (posF p0))])) (fun _ kt_ => XS.goto X3.here hx rfl (pc0 := 21) (pc' := 28) rfl (hb hby at_21) (by decide) (by decide) kt_) ?_
    exact J5 T3 _  X3 e3  N4 (posF p0)  (own_pos _)
set_option maxRecDepth 65536 in
set_option maxHeartbeats 40000000 in
theorem comes_1 {Post : Tables → Env → Array Value → State → Outcome → State → Prop} (hpost : ∀ tb e args s v u, (limb_1_1.after args s (.returned v) u = true ∧ limb_1_2.after args s (.returned v) u = true ∧ True) → FrameEnd s (.returned v) u (Jvm.fieldLocs frame_1_writes args s ++ Jvm.arrayLocs frame_1_arrays args s ++ Jvm.staticLocs frame_1_statics s) 16 128 → Post tb e args s (.returned v) u) :
    ArmFor flags0 classFile x code maxLocals ret World_1 tables_1 room_1 Calls_1 rest_1 Pre_1 Post := by
  intro l hfl _ _ p e ha hc hk s m args below hf hA hF happ hP
  obtain ⟨hcalls, hrest, hpre⟩ := hP
  obtain ⟨-, -, -, hnamed, -, -, -, hat⟩ := (Spec.applies_iff hf).mp happ
  obtain ⟨hg, hn⟩ := and_e (Cond.before_iff.mp (show (Jvm.Cond.and given_1 narrow_1).before args s = true from hpre))
  obtain ⟨g1a, g1b⟩ := and_e hg
  obtain ⟨g2a, g2b⟩ := and_e g1b
  obtain ⟨g3a, g3b⟩ := and_e g2b
  obtain ⟨g4a, g4b⟩ := and_e g3b
  obtain ⟨g5a, g5b⟩ := and_e g4b
  obtain ⟨w0, w1, w2, w3, w4, rfl⟩ : ∃ w0 w1 w2 w3 w4 : Value, args = #[w0, w1, w2, w3, w4] := by
    have hs : args.size = 5 := by simpa [Cond.value, given_1] using g1a
    obtain ⟨L⟩ := args
    match L, hs with
    | [w0, w1, w2, w3, w4], _ => exact ⟨w0, w1, w2, w3, w4, rfl⟩
  have hw := fun d (hd : d ∈ tables_1) => atoms_spec (ws := Jvm.Cond.code x code maxLocals ret :: tables_1) hat d (List.mem_cons_of_mem _ hd)
  have hfit : Fit s := fun {y c} hc i hi => by
    obtain ⟨ha, rfl⟩ := Array.getElem?_eq_some_iff.mp hc
    have q := List.all_eq_true.mp ((Array.all_eq_true_iff_forall_mem.mp hF) _ (Array.getElem_mem ha)) i (List.mem_range.mpr hi)
    simpa [Array.getElem?_eq_getElem hi] using q
  obtain ⟨i0, ei0⟩ := is_v g2a
  obtain rfl : w0 = (.int i0) := Option.some.inj ei0
  obtain ⟨i1, ei1⟩ := is_v g3a
  obtain rfl : w1 = (.int i1) := Option.some.inj ei1
  obtain ⟨i2, ei2⟩ := is_v g4a
  obtain rfl : w2 = (.int i2) := Option.some.inj ei2
  obtain ⟨i3, ei3⟩ := is_v g5a
  obtain rfl : w3 = (.int i3) := Option.some.inj ei3
  obtain ⟨i4, ei4⟩ := is_v g5b
  obtain rfl : w4 = (.int i4) := Option.some.inj ei4
  obtain ⟨hsets, hown0⟩ := atoms_of _ (rest_1_c_eq ▸ (show rest_1_c.before _ s = true from hrest))
  have ev_high := eqv_i (Term.int_eval (127 : Int32)) (Cond.before_iff.mp (hsets _ (List.mem_of_getElem? (i := 3) rfl)))
  have sta_high := Sta.start ev_high (Or.inr ⟨(hw _ (List.mem_of_getElem? (i := 30) rfl)), Cond.before_iff.mpr (Cond.before_iff.mp (hsets _ (List.mem_of_getElem? (i := 0) rfl)))⟩)
  obtain ⟨wC, ev_wC⟩ := arr_v (Cond.before_iff.mp (hsets _ (List.mem_of_getElem? (i := 4) rfl)))
  have sta_wC := Sta.start ev_wC (Or.inr ⟨(hw _ (List.mem_of_getElem? (i := 30) rfl)), Cond.before_iff.mpr (Cond.before_iff.mp (hsets _ (List.mem_of_getElem? (i := 2) rfl)))⟩)
  obtain ⟨cC, AC⟩ := Arr.start ev_wC (Cond.before_iff.mp (hsets _ (List.mem_of_getElem? (i := 4) rfl)))
  obtain ⟨lC1, lC2⟩ := own_len ev_wC AC (Cond.before_iff.mp (hsets _ (List.mem_of_getElem? (i := 6) rfl)))
  have bxi : Bxs s wC cC "java/lang/Integer" "I" (256 : Int32) (fun j => Value.int (j - (128 : Int32))) := Bxs.start (fun idx => (show _ = _ from ev_wC)) AC lC1 lC2 (by decide) (Cond.before_iff.mp (hsets _ (List.mem_of_getElem? (i := 7) rfl))) (fun X j nn hq => eqv_i (y := j - (128 : Int32)) (own_bxF nn) hq)
  have GS : Glob s wC cC := ⟨sta_high, sta_wC, bxi⟩
  obtain ⟨n, o, h1, h2, h3, _, L, rfl, ⟨rfl, N⟩, hq⟩ := rm0 l s _ hw tables_1 wC cC GS i0 i1 i2 i3 i4 s.heap s.heap.size (Nat.le_refl _) (Old.start s) p e ha hc hk s m _ below hf ((Spec.applies_iff_loose hf).mp happ).1 ⟨rfl, State.Warmed39.refl s, rfl⟩ trivial
  refine ⟨n, _, h1, h2, h3, hpost _ _ _ _ _ _ ⟨Cond.after_iff.mpr rfl, Cond.after_iff.mpr (eq_i res_at (Term.int_eval (1)) rfl), trivial⟩ ⟨hq.1, hq.2.1, (hq.2.2.sift fun y hy => Or.inr (N y hy)).mono (by decide) (by decide)⟩⟩
theorem main_1_1 : Claimed_1_1 := comes_1 fun _ _ _ _ _ _ h hF => ⟨h.1, hF⟩
theorem main_1_2 : Claimed_1_2 := comes_1 fun _ _ _ _ _ _ h hF => ⟨h.2.1, hF⟩
end Jvm.Pilot.@@N@@
namespace Jvm.Pilot.@@N@@
open Jvm Jvm.ClassFile Sem Op Lib Jvm.Free Jvm.Stand Jvm.Pilot.@@N@@.Jvm.D
/-! MADE BY PROGRAM (witnessworld.py) out of the Statement's table words and the real class files: 16 classes; the members and pool entries that the words name. The judged class is class 1, her method 2. -/
namespace start1
open Jvm.ClassFile
def u (s : String) : CpInfo := .utf8 (stringToUtf16 s)
/-- a pool by its gaps: so many unusable entries, then the entry; so many at the end -/
def gap : Nat → List CpInfo → List CpInfo
  | 0, r => r
  | n + 1, r => .unusable :: gap n r
def poolList (es : List (Nat × CpInfo)) (last : Nat) : List CpInfo := es.foldr (fun e r => gap e.1 (e.2 :: r)) (gap last [])
def pool (es : List (Nat × CpInfo)) (last : Nat) : Array CpInfo := ⟨poolList es last⟩
def fileOf (pool : Array CpInfo) (this : Nat) (attrs : Array Attribute := #[]) (ms : Array MethodInfo := #[]) (fl : Nat := 33) (sup : Nat := 0) (ifs : Array Nat := #[]) (fds : Array FieldInfo := #[]) : ClassFile where
  minorVersion := 0
  majorVersion := 65
  constantPool := pool
  accessFlags := fl
  thisClass := this
  superClass := sup
  interfaces := ifs
  fields := fds
  methods := ms
  attributes := attrs
def plain (name : String) (sup : Option ClassId) : Class where
  name := name
  kind := .ordinary
  loader := none
  accessFlags := 33
  super := sup
  interfaces := #[]
  cf := none
  fields := #[]
  methods := #[]
  instanceTypes := #[]
  staticTypes := #[]
  resolved := #[]
  callSites := []
  init := .initialized
  statics := none
  mirror := none

def pool0 : Array CpInfo := pool [(5, u "<init>"), (0, u "()V"), (1, .class_ 10), (1, u "java/lang/Object")] 113

def k0c0 : Code := { maxStack := 0, maxLocals := 1, code := object_method_1_code, exceptionTable := #[], attributes := #[] }
def k0m0 : Method := { name := "<init>", desc := "()V", sig := { parameters := [], returnType := none }, accessFlags := 1, code := some k0c0 }
/-- java/lang/Object -/
def k0 : Class := { plain "java/lang/Object" none with
  accessFlags := 33
  interfaces := #[]
  cf := some (fileOf pool0 8 #[] #[{ accessFlags := 1, nameIndex := 5, descriptorIndex := 6, attributes := #[] }] 33 0 #[] #[])
  fields := #[]
  methods := #[k0m0]
  instanceTypes := #[]
  staticTypes := #[]
  resolved := Array.replicate 124 none
  statics := none }

def pool1 : Array CpInfo := pool [(2, .class_ 4), (1, u "java/lang/Object"), (0, u "<init>"), (0, u "()V"), (0, .integer 2147483647), (0, .methodref 9 10), (0, .class_ 11), (0, .nameAndType 12 13), (0, u "com/example/even_commute/evencommute/comparison/LinkEndsEqualsPinLaw"), (0, u "pos"), (0, u "(I)I"), (0, .class_ 15), (0, u "com/example/even_commute/evencommute/comparison/LinkEnds"), (0, .methodref 14 17), (0, .nameAndType 5 18), (0, u "(II)V"), (0, .methodref 14 20), (0, .nameAndType 21 22), (0, u "equals"), (0, u "(Ljava/lang/Object;)Z"), (0, .methodref 24 25), (0, .class_ 26), (0, .nameAndType 27 28), (0, u "java/lang/Integer"), (0, u "valueOf"), (0, u "(I)Ljava/lang/Integer;"), (3, u "law"), (0, u "(IIIII)Z")] 2

def k1m0 : Method := { name := "<init>", desc := "()V", sig := { parameters := [], returnType := none }, accessFlags := 1, code := none }
def k1c1 : Code := { maxStack := 2, maxLocals := 2, code := method_2_code, exceptionTable := #[], attributes := #[] }
def k1m1 : Method := { name := "pos", desc := "(I)I", sig := { parameters := [.int], returnType := some .int }, accessFlags := 10, code := some k1c1 }
def k1c2 : Code := { maxStack := 4, maxLocals := 17, code := code, exceptionTable := #[], attributes := #[] }
def k1m2 : Method := { name := "law", desc := "(IIIII)Z", sig := { parameters := [.int, .int, .int, .int, .int], returnType := some .boolean }, accessFlags := 9, code := some k1c2 }
/-- com/example/even_commute/evencommute/comparison/LinkEndsEqualsPinLaw -/
def k1 : Class := { plain "com/example/even_commute/evencommute/comparison/LinkEndsEqualsPinLaw" (some 0) with
  accessFlags := 49
  interfaces := #[]
  cf := some (fileOf pool1 9 #[] #[{ accessFlags := 1, nameIndex := 5, descriptorIndex := 6, attributes := #[] }, { accessFlags := 10, nameIndex := 12, descriptorIndex := 13, attributes := #[] }, { accessFlags := 9, nameIndex := 32, descriptorIndex := 33, attributes := #[] }] 49 2 #[] #[])
  fields := #[]
  methods := #[k1m0, k1m1, k1m2]
  instanceTypes := #[]
  staticTypes := #[]
  resolved := Array.replicate 36 none
  statics := none }

def pool2 : Array CpInfo := pool [(1, .methodref 2 3), (0, .class_ 4), (0, .nameAndType 5 6), (0, u "java/lang/Object"), (0, u "<init>"), (0, u "()V"), (19, .fieldref 27 28), (0, .class_ 29), (0, .nameAndType 30 31), (0, u "com/example/even_commute/evencommute/comparison/LinkEnds"), (0, u "fromNode"), (0, u "I"), (0, .fieldref 27 33), (0, .nameAndType 34 31), (0, u "toNode"), (4, u "(II)V"), (6, u "equals"), (0, u "(Ljava/lang/Object;)Z")] 20

def k2c0 : Code := { maxStack := 7, maxLocals := 3, code := prog_19_method_1_code, exceptionTable := #[], attributes := #[] }
def k2m0 : Method := { name := "<init>", desc := "(II)V", sig := { parameters := [.int, .int], returnType := none }, accessFlags := 1, code := some k2c0 }
def k2c1 : Code := { maxStack := 2, maxLocals := 3, code := prog_19_method_4_code, exceptionTable := #[], attributes := #[] }
def k2m1 : Method := { name := "equals", desc := "(Ljava/lang/Object;)Z", sig := { parameters := [(.object "java/lang/Object")], returnType := some .boolean }, accessFlags := 1, code := some k2c1 }
/-- com/example/even_commute/evencommute/comparison/LinkEnds -/
def k2 : Class := { plain "com/example/even_commute/evencommute/comparison/LinkEnds" (some 0) with
  accessFlags := 49
  interfaces := #[]
  cf := some (fileOf pool2 27 #[] #[{ accessFlags := 1, nameIndex := 5, descriptorIndex := 39, attributes := #[] }, { accessFlags := 1, nameIndex := 46, descriptorIndex := 47, attributes := #[] }] 49 2 #[] #[{ accessFlags := 18, nameIndex := 30, descriptorIndex := 31, attributes := #[] }, { accessFlags := 18, nameIndex := 34, descriptorIndex := 31, attributes := #[] }])
  fields := #[{ name := "fromNode", type := .int, accessFlags := 18, slot := 0, constantValue := 0 }, { name := "toNode", type := .int, accessFlags := 18, slot := 1, constantValue := 0 }]
  methods := #[k2m0, k2m1]
  instanceTypes := #[.int, .int]
  staticTypes := #[]
  resolved := Array.replicate 68 none
  statics := none }

def pool3 : Array CpInfo := pool [(1, .class_ 2), (0, u "java/io/Serializable"), (0, .class_ 4), (0, u "java/lang/Object")] 2

/-- java/io/Serializable -/
def k3 : Class := { plain "java/io/Serializable" (some 0) with
  accessFlags := 1537
  interfaces := #[]
  cf := some (fileOf pool3 1 #[] #[] 1537 3 #[] #[])
  fields := #[]
  methods := #[]
  instanceTypes := #[]
  staticTypes := #[]
  resolved := Array.replicate 7 none
  statics := none }

def pool4 : Array CpInfo := pool [(1, .methodref 2 3), (0, .class_ 4), (0, .nameAndType 5 6), (0, u "java/lang/Object"), (0, u "<init>"), (0, u "()V"), (1, .class_ 10), (1, u "java/lang/Number"), (2, .class_ 14), (0, u "java/io/Serializable"), (0, u "serialVersionUID"), (0, u "J")] 20

def k4c0 : Code := { maxStack := 1, maxLocals := 1, code := jdk_18_method_1_code, exceptionTable := #[], attributes := #[] }
def k4m0 : Method := { name := "<init>", desc := "()V", sig := { parameters := [], returnType := none }, accessFlags := 1, code := some k4c0 }
/-- java/lang/Number -/
def k4 : Class := { plain "java/lang/Number" (some 0) with
  accessFlags := 1057
  interfaces := #[3]
  cf := some (fileOf pool4 8 #[] #[{ accessFlags := 1, nameIndex := 5, descriptorIndex := 6, attributes := #[] }] 1057 2 #[13] #[{ accessFlags := 26, nameIndex := 15, descriptorIndex := 16, attributes := #[] }])
  fields := #[{ name := "serialVersionUID", type := .long, accessFlags := 26, slot := 0, constantValue := 0 }]
  methods := #[k4m0]
  instanceTypes := #[]
  staticTypes := #[.long]
  resolved := Array.replicate 37 none
  statics := none }

def pool5 : Array CpInfo := pool [(1, .class_ 2), (0, u "java/lang/Comparable"), (0, .class_ 4), (0, u "java/lang/Object")] 7

/-- java/lang/Comparable -/
def k5 : Class := { plain "java/lang/Comparable" (some 0) with
  accessFlags := 1537
  interfaces := #[]
  cf := some (fileOf pool5 1 #[] #[] 1537 3 #[] #[])
  fields := #[]
  methods := #[]
  instanceTypes := #[]
  staticTypes := #[]
  resolved := Array.replicate 12 none
  statics := none }

def pool6 : Array CpInfo := pool [(1, .class_ 2), (0, u "java/lang/constant/Constable"), (0, .class_ 4), (0, u "java/lang/Object")] 6

/-- java/lang/constant/Constable -/
def k6 : Class := { plain "java/lang/constant/Constable" (some 0) with
  accessFlags := 1537
  interfaces := #[]
  cf := some (fileOf pool6 1 #[] #[] 1537 3 #[] #[])
  fields := #[]
  methods := #[]
  instanceTypes := #[]
  staticTypes := #[]
  resolved := Array.replicate 11 none
  statics := none }

def pool7 : Array CpInfo := pool [(1, .class_ 2), (0, u "java/lang/constant/ConstantDesc"), (0, .class_ 4), (0, u "java/lang/Object")] 32

/-- java/lang/constant/ConstantDesc -/
def k7 : Class := { plain "java/lang/constant/ConstantDesc" (some 0) with
  accessFlags := 1537
  interfaces := #[]
  cf := some (fileOf pool7 1 #[] #[] 1537 3 #[] #[])
  fields := #[]
  methods := #[]
  instanceTypes := #[]
  staticTypes := #[]
  resolved := Array.replicate 37 none
  statics := none }

def pool8 : Array CpInfo := pool [(1, .class_ 2), (0, u "java/lang/Integer"), (16, u "digits"), (0, u "[C"), (46, u "<init>"), (17, u "DigitOnes"), (0, u "[B"), (2, u "DigitTens"), (10, .nameAndType 67 101), (0, u "()V"), (85, u "valueOf"), (0, u "(I)Ljava/lang/Integer;"), (0, .class_ 190), (0, u "java/lang/Integer$IntegerCache"), (0, .fieldref 189 192), (0, .nameAndType 193 194), (0, u "high"), (0, u "I"), (0, .fieldref 189 196), (0, .nameAndType 197 198), (0, u "cache"), (0, u "[Ljava/lang/Integer;"), (0, .methodref 1 200), (0, .nameAndType 67 201), (0, u "(I)V"), (0, .methodref 203 100), (0, .class_ 204), (0, u "java/lang/Number"), (0, .fieldref 1 206), (0, .nameAndType 207 194), (0, u "value"), (94, u "TYPE"), (0, u "Ljava/lang/Class;"), (0, .class_ 305), (0, u "java/lang/Comparable"), (0, .class_ 307), (0, u "java/lang/constant/Constable"), (0, .class_ 309), (0, u "java/lang/constant/ConstantDesc"), (0, u "MIN_VALUE"), (1, u "MAX_VALUE"), (3, u "SIZE"), (1, u "BYTES"), (1, u "serialVersionUID"), (0, u "J")] 131

def k8c0 : Code := { maxStack := 3, maxLocals := 1, code := jdk_33_method_22_code, exceptionTable := #[], attributes := #[] }
def k8m0 : Method := { name := "valueOf", desc := "(I)Ljava/lang/Integer;", sig := { parameters := [.int], returnType := some (.object "java/lang/Integer") }, accessFlags := 9, code := some k8c0 }
def k8c1 : Code := { maxStack := 2, maxLocals := 2, code := jdk_33_method_23_code, exceptionTable := #[], attributes := #[] }
def k8m1 : Method := { name := "<init>", desc := "(I)V", sig := { parameters := [.int], returnType := none }, accessFlags := 1, code := some k8c1 }
/-- java/lang/Integer -/
def k8 : Class := { plain "java/lang/Integer" (some 4) with
  accessFlags := 49
  interfaces := #[5, 6, 7]
  cf := some (fileOf pool8 1 #[.nestMembers #[189]] #[{ accessFlags := 9, nameIndex := 187, descriptorIndex := 188, attributes := #[] }, { accessFlags := 1, nameIndex := 67, descriptorIndex := 201, attributes := #[] }] 49 203 #[304, 306, 308] #[{ accessFlags := 25, nameIndex := 310, descriptorIndex := 194, attributes := #[] }, { accessFlags := 25, nameIndex := 312, descriptorIndex := 194, attributes := #[] }, { accessFlags := 25, nameIndex := 302, descriptorIndex := 303, attributes := #[] }, { accessFlags := 24, nameIndex := 19, descriptorIndex := 20, attributes := #[] }, { accessFlags := 24, nameIndex := 89, descriptorIndex := 86, attributes := #[] }, { accessFlags := 24, nameIndex := 85, descriptorIndex := 86, attributes := #[] }, { accessFlags := 18, nameIndex := 207, descriptorIndex := 194, attributes := #[] }, { accessFlags := 25, nameIndex := 316, descriptorIndex := 194, attributes := #[] }, { accessFlags := 25, nameIndex := 318, descriptorIndex := 194, attributes := #[] }, { accessFlags := 26, nameIndex := 320, descriptorIndex := 321, attributes := #[] }])
  fields := #[{ name := "MIN_VALUE", type := .int, accessFlags := 25, slot := 0, constantValue := 0 }, { name := "MAX_VALUE", type := .int, accessFlags := 25, slot := 1, constantValue := 0 }, { name := "TYPE", type := (.object "java/lang/Class"), accessFlags := 25, slot := 2, constantValue := 0 }, { name := "digits", type := (.array .char), accessFlags := 24, slot := 3, constantValue := 0 }, { name := "DigitTens", type := (.array .byte), accessFlags := 24, slot := 4, constantValue := 0 }, { name := "DigitOnes", type := (.array .byte), accessFlags := 24, slot := 5, constantValue := 0 }, { name := "value", type := .int, accessFlags := 18, slot := 0, constantValue := 0 }, { name := "SIZE", type := .int, accessFlags := 25, slot := 6, constantValue := 0 }, { name := "BYTES", type := .int, accessFlags := 25, slot := 7, constantValue := 0 }, { name := "serialVersionUID", type := .long, accessFlags := 26, slot := 8, constantValue := 0 }]
  methods := #[k8m0, k8m1]
  instanceTypes := #[.int]
  staticTypes := #[.int, .int, (.object "java/lang/Class"), (.array .char), (.array .byte), (.array .byte), .int, .int, .long]
  resolved := Array.replicate 453 none
  statics := none }

def pool9 : Array CpInfo := pool [(2, .class_ 4), (1, u "java/lang/Object"), (0, u "<init>"), (0, u "()V"), (0, .class_ 8), (0, u "java/lang/Integer"), (7, .class_ 18), (1, u "java/lang/Integer$IntegerCache"), (0, u "$assertionsDisabled"), (0, u "Z"), (26, u "high"), (0, u "I"), (8, u "archivedCache"), (0, u "[Ljava/lang/Integer;"), (12, u "cache"), (0, u "low")] 27

def k9m0 : Method := { name := "<init>", desc := "()V", sig := { parameters := [], returnType := none }, accessFlags := 2, code := none }
/-- java/lang/Integer$IntegerCache -/
def k9 : Class := { plain "java/lang/Integer$IntegerCache" (some 0) with
  accessFlags := 48
  interfaces := #[]
  cf := some (fileOf pool9 16 #[.nestHost 7] #[{ accessFlags := 2, nameIndex := 5, descriptorIndex := 6, attributes := #[] }] 48 2 #[] #[{ accessFlags := 24, nameIndex := 72, descriptorIndex := 48, attributes := #[] }, { accessFlags := 24, nameIndex := 47, descriptorIndex := 48, attributes := #[] }, { accessFlags := 24, nameIndex := 71, descriptorIndex := 58, attributes := #[] }, { accessFlags := 8, nameIndex := 57, descriptorIndex := 58, attributes := #[] }, { accessFlags := 4120, nameIndex := 19, descriptorIndex := 20, attributes := #[] }])
  fields := #[{ name := "low", type := .int, accessFlags := 24, slot := 0, constantValue := 0 }, { name := "high", type := .int, accessFlags := 24, slot := 1, constantValue := 0 }, { name := "cache", type := (.array (.object "java/lang/Integer")), accessFlags := 24, slot := 2, constantValue := 0 }, { name := "archivedCache", type := (.array (.object "java/lang/Integer")), accessFlags := 8, slot := 3, constantValue := 0 }, { name := "$assertionsDisabled", type := .boolean, accessFlags := 4120, slot := 4, constantValue := 0 }]
  methods := #[k9m0]
  instanceTypes := #[]
  staticTypes := #[.int, .int, (.array (.object "java/lang/Integer")), (.array (.object "java/lang/Integer")), .boolean]
  resolved := Array.replicate 100 none
  statics := some 0 }

def pool10 : Array CpInfo := pool [(1, u "java/lang/Cloneable"), (0, .class_ 1), (0, u "java/lang/Object"), (0, .class_ 3)] 3

/-- java/lang/Cloneable -/
def k10 : Class := { plain "java/lang/Cloneable" (some 0) with
  accessFlags := 1537
  interfaces := #[]
  cf := some (fileOf pool10 2 #[] #[] 1537 4 #[] #[])
  fields := #[]
  methods := #[]
  instanceTypes := #[]
  staticTypes := #[]
  resolved := Array.replicate 8 none
  statics := none }

/-- the primitive byte -/
def k11 : Class := { plain "byte" none with kind := .primitive 'B', accessFlags := 0x411 }
/-- [B -/
def k12 : Class := { plain "[B" (some 0) with kind := .array 11 .byte, interfaces := #[10, 3], accessFlags := 1041 }

/-- the primitive int -/
def k13 : Class := { plain "int" none with kind := .primitive 'I', accessFlags := 0x411 }
/-- [I -/
def k14 : Class := { plain "[I" (some 0) with kind := .array 13 .int, interfaces := #[10, 3], accessFlags := 1041 }

/-- [Ljava/lang/Integer; -/
def k15 : Class := { plain "[Ljava/lang/Integer;" (some 0) with kind := .array 8 (.object "java/lang/Integer"), interfaces := #[10, 3], accessFlags := 1041 }

def heap : Heap := #[{ cls := 9, slots := #[.int 0, .int 127, .ref 1, .null, .int 0], vm := .statics 9 },
  { cls := 15, slots := #[.ref 2, .ref 3, .ref 4, .ref 5, .ref 6, .ref 7, .ref 8, .ref 9, .ref 10, .ref 11, .ref 12, .ref 13, .ref 14, .ref 15, .ref 16, .ref 17, .ref 18, .ref 19, .ref 20, .ref 21, .ref 22, .ref 23, .ref 24, .ref 25, .ref 26, .ref 27, .ref 28, .ref 29, .ref 30, .ref 31, .ref 32, .ref 33, .ref 34, .ref 35, .ref 36, .ref 37, .ref 38, .ref 39, .ref 40, .ref 41, .ref 42, .ref 43, .ref 44, .ref 45, .ref 46, .ref 47, .ref 48, .ref 49, .ref 50, .ref 51, .ref 52, .ref 53, .ref 54, .ref 55, .ref 56, .ref 57, .ref 58, .ref 59, .ref 60, .ref 61, .ref 62, .ref 63, .ref 64, .ref 65, .ref 66, .ref 67, .ref 68, .ref 69, .ref 70, .ref 71, .ref 72, .ref 73, .ref 74, .ref 75, .ref 76, .ref 77, .ref 78, .ref 79, .ref 80, .ref 81, .ref 82, .ref 83, .ref 84, .ref 85, .ref 86, .ref 87, .ref 88, .ref 89, .ref 90, .ref 91, .ref 92, .ref 93, .ref 94, .ref 95, .ref 96, .ref 97, .ref 98, .ref 99, .ref 100, .ref 101, .ref 102, .ref 103, .ref 104, .ref 105, .ref 106, .ref 107, .ref 108, .ref 109, .ref 110, .ref 111, .ref 112, .ref 113, .ref 114, .ref 115, .ref 116, .ref 117, .ref 118, .ref 119, .ref 120, .ref 121, .ref 122, .ref 123, .ref 124, .ref 125, .ref 126, .ref 127, .ref 128, .ref 129, .ref 130, .ref 131, .ref 132, .ref 133, .ref 134, .ref 135, .ref 136, .ref 137, .ref 138, .ref 139, .ref 140, .ref 141, .ref 142, .ref 143, .ref 144, .ref 145, .ref 146, .ref 147, .ref 148, .ref 149, .ref 150, .ref 151, .ref 152, .ref 153, .ref 154, .ref 155, .ref 156, .ref 157, .ref 158, .ref 159, .ref 160, .ref 161, .ref 162, .ref 163, .ref 164, .ref 165, .ref 166, .ref 167, .ref 168, .ref 169, .ref 170, .ref 171, .ref 172, .ref 173, .ref 174, .ref 175, .ref 176, .ref 177, .ref 178, .ref 179, .ref 180, .ref 181, .ref 182, .ref 183, .ref 184, .ref 185, .ref 186, .ref 187, .ref 188, .ref 189, .ref 190, .ref 191, .ref 192, .ref 193, .ref 194, .ref 195, .ref 196, .ref 197, .ref 198, .ref 199, .ref 200, .ref 201, .ref 202, .ref 203, .ref 204, .ref 205, .ref 206, .ref 207, .ref 208, .ref 209, .ref 210, .ref 211, .ref 212, .ref 213, .ref 214, .ref 215, .ref 216, .ref 217, .ref 218, .ref 219, .ref 220, .ref 221, .ref 222, .ref 223, .ref 224, .ref 225, .ref 226, .ref 227, .ref 228, .ref 229, .ref 230, .ref 231, .ref 232, .ref 233, .ref 234, .ref 235, .ref 236, .ref 237, .ref 238, .ref 239, .ref 240, .ref 241, .ref 242, .ref 243, .ref 244, .ref 245, .ref 246, .ref 247, .ref 248, .ref 249, .ref 250, .ref 251, .ref 252, .ref 253, .ref 254, .ref 255, .ref 256, .ref 257], vm := .none },
  { cls := 8, slots := #[.int (-128)], vm := .none },
  { cls := 8, slots := #[.int (-127)], vm := .none },
  { cls := 8, slots := #[.int (-126)], vm := .none },
  { cls := 8, slots := #[.int (-125)], vm := .none },
  { cls := 8, slots := #[.int (-124)], vm := .none },
  { cls := 8, slots := #[.int (-123)], vm := .none },
  { cls := 8, slots := #[.int (-122)], vm := .none },
  { cls := 8, slots := #[.int (-121)], vm := .none },
  { cls := 8, slots := #[.int (-120)], vm := .none },
  { cls := 8, slots := #[.int (-119)], vm := .none },
  { cls := 8, slots := #[.int (-118)], vm := .none },
  { cls := 8, slots := #[.int (-117)], vm := .none },
  { cls := 8, slots := #[.int (-116)], vm := .none },
  { cls := 8, slots := #[.int (-115)], vm := .none },
  { cls := 8, slots := #[.int (-114)], vm := .none },
  { cls := 8, slots := #[.int (-113)], vm := .none },
  { cls := 8, slots := #[.int (-112)], vm := .none },
  { cls := 8, slots := #[.int (-111)], vm := .none },
  { cls := 8, slots := #[.int (-110)], vm := .none },
  { cls := 8, slots := #[.int (-109)], vm := .none },
  { cls := 8, slots := #[.int (-108)], vm := .none },
  { cls := 8, slots := #[.int (-107)], vm := .none },
  { cls := 8, slots := #[.int (-106)], vm := .none },
  { cls := 8, slots := #[.int (-105)], vm := .none },
  { cls := 8, slots := #[.int (-104)], vm := .none },
  { cls := 8, slots := #[.int (-103)], vm := .none },
  { cls := 8, slots := #[.int (-102)], vm := .none },
  { cls := 8, slots := #[.int (-101)], vm := .none },
  { cls := 8, slots := #[.int (-100)], vm := .none },
  { cls := 8, slots := #[.int (-99)], vm := .none },
  { cls := 8, slots := #[.int (-98)], vm := .none },
  { cls := 8, slots := #[.int (-97)], vm := .none },
  { cls := 8, slots := #[.int (-96)], vm := .none },
  { cls := 8, slots := #[.int (-95)], vm := .none },
  { cls := 8, slots := #[.int (-94)], vm := .none },
  { cls := 8, slots := #[.int (-93)], vm := .none },
  { cls := 8, slots := #[.int (-92)], vm := .none },
  { cls := 8, slots := #[.int (-91)], vm := .none },
  { cls := 8, slots := #[.int (-90)], vm := .none },
  { cls := 8, slots := #[.int (-89)], vm := .none },
  { cls := 8, slots := #[.int (-88)], vm := .none },
  { cls := 8, slots := #[.int (-87)], vm := .none },
  { cls := 8, slots := #[.int (-86)], vm := .none },
  { cls := 8, slots := #[.int (-85)], vm := .none },
  { cls := 8, slots := #[.int (-84)], vm := .none },
  { cls := 8, slots := #[.int (-83)], vm := .none },
  { cls := 8, slots := #[.int (-82)], vm := .none },
  { cls := 8, slots := #[.int (-81)], vm := .none },
  { cls := 8, slots := #[.int (-80)], vm := .none },
  { cls := 8, slots := #[.int (-79)], vm := .none },
  { cls := 8, slots := #[.int (-78)], vm := .none },
  { cls := 8, slots := #[.int (-77)], vm := .none },
  { cls := 8, slots := #[.int (-76)], vm := .none },
  { cls := 8, slots := #[.int (-75)], vm := .none },
  { cls := 8, slots := #[.int (-74)], vm := .none },
  { cls := 8, slots := #[.int (-73)], vm := .none },
  { cls := 8, slots := #[.int (-72)], vm := .none },
  { cls := 8, slots := #[.int (-71)], vm := .none },
  { cls := 8, slots := #[.int (-70)], vm := .none },
  { cls := 8, slots := #[.int (-69)], vm := .none },
  { cls := 8, slots := #[.int (-68)], vm := .none },
  { cls := 8, slots := #[.int (-67)], vm := .none },
  { cls := 8, slots := #[.int (-66)], vm := .none },
  { cls := 8, slots := #[.int (-65)], vm := .none },
  { cls := 8, slots := #[.int (-64)], vm := .none },
  { cls := 8, slots := #[.int (-63)], vm := .none },
  { cls := 8, slots := #[.int (-62)], vm := .none },
  { cls := 8, slots := #[.int (-61)], vm := .none },
  { cls := 8, slots := #[.int (-60)], vm := .none },
  { cls := 8, slots := #[.int (-59)], vm := .none },
  { cls := 8, slots := #[.int (-58)], vm := .none },
  { cls := 8, slots := #[.int (-57)], vm := .none },
  { cls := 8, slots := #[.int (-56)], vm := .none },
  { cls := 8, slots := #[.int (-55)], vm := .none },
  { cls := 8, slots := #[.int (-54)], vm := .none },
  { cls := 8, slots := #[.int (-53)], vm := .none },
  { cls := 8, slots := #[.int (-52)], vm := .none },
  { cls := 8, slots := #[.int (-51)], vm := .none },
  { cls := 8, slots := #[.int (-50)], vm := .none },
  { cls := 8, slots := #[.int (-49)], vm := .none },
  { cls := 8, slots := #[.int (-48)], vm := .none },
  { cls := 8, slots := #[.int (-47)], vm := .none },
  { cls := 8, slots := #[.int (-46)], vm := .none },
  { cls := 8, slots := #[.int (-45)], vm := .none },
  { cls := 8, slots := #[.int (-44)], vm := .none },
  { cls := 8, slots := #[.int (-43)], vm := .none },
  { cls := 8, slots := #[.int (-42)], vm := .none },
  { cls := 8, slots := #[.int (-41)], vm := .none },
  { cls := 8, slots := #[.int (-40)], vm := .none },
  { cls := 8, slots := #[.int (-39)], vm := .none },
  { cls := 8, slots := #[.int (-38)], vm := .none },
  { cls := 8, slots := #[.int (-37)], vm := .none },
  { cls := 8, slots := #[.int (-36)], vm := .none },
  { cls := 8, slots := #[.int (-35)], vm := .none },
  { cls := 8, slots := #[.int (-34)], vm := .none },
  { cls := 8, slots := #[.int (-33)], vm := .none },
  { cls := 8, slots := #[.int (-32)], vm := .none },
  { cls := 8, slots := #[.int (-31)], vm := .none },
  { cls := 8, slots := #[.int (-30)], vm := .none },
  { cls := 8, slots := #[.int (-29)], vm := .none },
  { cls := 8, slots := #[.int (-28)], vm := .none },
  { cls := 8, slots := #[.int (-27)], vm := .none },
  { cls := 8, slots := #[.int (-26)], vm := .none },
  { cls := 8, slots := #[.int (-25)], vm := .none },
  { cls := 8, slots := #[.int (-24)], vm := .none },
  { cls := 8, slots := #[.int (-23)], vm := .none },
  { cls := 8, slots := #[.int (-22)], vm := .none },
  { cls := 8, slots := #[.int (-21)], vm := .none },
  { cls := 8, slots := #[.int (-20)], vm := .none },
  { cls := 8, slots := #[.int (-19)], vm := .none },
  { cls := 8, slots := #[.int (-18)], vm := .none },
  { cls := 8, slots := #[.int (-17)], vm := .none },
  { cls := 8, slots := #[.int (-16)], vm := .none },
  { cls := 8, slots := #[.int (-15)], vm := .none },
  { cls := 8, slots := #[.int (-14)], vm := .none },
  { cls := 8, slots := #[.int (-13)], vm := .none },
  { cls := 8, slots := #[.int (-12)], vm := .none },
  { cls := 8, slots := #[.int (-11)], vm := .none },
  { cls := 8, slots := #[.int (-10)], vm := .none },
  { cls := 8, slots := #[.int (-9)], vm := .none },
  { cls := 8, slots := #[.int (-8)], vm := .none },
  { cls := 8, slots := #[.int (-7)], vm := .none },
  { cls := 8, slots := #[.int (-6)], vm := .none },
  { cls := 8, slots := #[.int (-5)], vm := .none },
  { cls := 8, slots := #[.int (-4)], vm := .none },
  { cls := 8, slots := #[.int (-3)], vm := .none },
  { cls := 8, slots := #[.int (-2)], vm := .none },
  { cls := 8, slots := #[.int (-1)], vm := .none },
  { cls := 8, slots := #[.int 0], vm := .none },
  { cls := 8, slots := #[.int 1], vm := .none },
  { cls := 8, slots := #[.int 2], vm := .none },
  { cls := 8, slots := #[.int 3], vm := .none },
  { cls := 8, slots := #[.int 4], vm := .none },
  { cls := 8, slots := #[.int 5], vm := .none },
  { cls := 8, slots := #[.int 6], vm := .none },
  { cls := 8, slots := #[.int 7], vm := .none },
  { cls := 8, slots := #[.int 8], vm := .none },
  { cls := 8, slots := #[.int 9], vm := .none },
  { cls := 8, slots := #[.int 10], vm := .none },
  { cls := 8, slots := #[.int 11], vm := .none },
  { cls := 8, slots := #[.int 12], vm := .none },
  { cls := 8, slots := #[.int 13], vm := .none },
  { cls := 8, slots := #[.int 14], vm := .none },
  { cls := 8, slots := #[.int 15], vm := .none },
  { cls := 8, slots := #[.int 16], vm := .none },
  { cls := 8, slots := #[.int 17], vm := .none },
  { cls := 8, slots := #[.int 18], vm := .none },
  { cls := 8, slots := #[.int 19], vm := .none },
  { cls := 8, slots := #[.int 20], vm := .none },
  { cls := 8, slots := #[.int 21], vm := .none },
  { cls := 8, slots := #[.int 22], vm := .none },
  { cls := 8, slots := #[.int 23], vm := .none },
  { cls := 8, slots := #[.int 24], vm := .none },
  { cls := 8, slots := #[.int 25], vm := .none },
  { cls := 8, slots := #[.int 26], vm := .none },
  { cls := 8, slots := #[.int 27], vm := .none },
  { cls := 8, slots := #[.int 28], vm := .none },
  { cls := 8, slots := #[.int 29], vm := .none },
  { cls := 8, slots := #[.int 30], vm := .none },
  { cls := 8, slots := #[.int 31], vm := .none },
  { cls := 8, slots := #[.int 32], vm := .none },
  { cls := 8, slots := #[.int 33], vm := .none },
  { cls := 8, slots := #[.int 34], vm := .none },
  { cls := 8, slots := #[.int 35], vm := .none },
  { cls := 8, slots := #[.int 36], vm := .none },
  { cls := 8, slots := #[.int 37], vm := .none },
  { cls := 8, slots := #[.int 38], vm := .none },
  { cls := 8, slots := #[.int 39], vm := .none },
  { cls := 8, slots := #[.int 40], vm := .none },
  { cls := 8, slots := #[.int 41], vm := .none },
  { cls := 8, slots := #[.int 42], vm := .none },
  { cls := 8, slots := #[.int 43], vm := .none },
  { cls := 8, slots := #[.int 44], vm := .none },
  { cls := 8, slots := #[.int 45], vm := .none },
  { cls := 8, slots := #[.int 46], vm := .none },
  { cls := 8, slots := #[.int 47], vm := .none },
  { cls := 8, slots := #[.int 48], vm := .none },
  { cls := 8, slots := #[.int 49], vm := .none },
  { cls := 8, slots := #[.int 50], vm := .none },
  { cls := 8, slots := #[.int 51], vm := .none },
  { cls := 8, slots := #[.int 52], vm := .none },
  { cls := 8, slots := #[.int 53], vm := .none },
  { cls := 8, slots := #[.int 54], vm := .none },
  { cls := 8, slots := #[.int 55], vm := .none },
  { cls := 8, slots := #[.int 56], vm := .none },
  { cls := 8, slots := #[.int 57], vm := .none },
  { cls := 8, slots := #[.int 58], vm := .none },
  { cls := 8, slots := #[.int 59], vm := .none },
  { cls := 8, slots := #[.int 60], vm := .none },
  { cls := 8, slots := #[.int 61], vm := .none },
  { cls := 8, slots := #[.int 62], vm := .none },
  { cls := 8, slots := #[.int 63], vm := .none },
  { cls := 8, slots := #[.int 64], vm := .none },
  { cls := 8, slots := #[.int 65], vm := .none },
  { cls := 8, slots := #[.int 66], vm := .none },
  { cls := 8, slots := #[.int 67], vm := .none },
  { cls := 8, slots := #[.int 68], vm := .none },
  { cls := 8, slots := #[.int 69], vm := .none },
  { cls := 8, slots := #[.int 70], vm := .none },
  { cls := 8, slots := #[.int 71], vm := .none },
  { cls := 8, slots := #[.int 72], vm := .none },
  { cls := 8, slots := #[.int 73], vm := .none },
  { cls := 8, slots := #[.int 74], vm := .none },
  { cls := 8, slots := #[.int 75], vm := .none },
  { cls := 8, slots := #[.int 76], vm := .none },
  { cls := 8, slots := #[.int 77], vm := .none },
  { cls := 8, slots := #[.int 78], vm := .none },
  { cls := 8, slots := #[.int 79], vm := .none },
  { cls := 8, slots := #[.int 80], vm := .none },
  { cls := 8, slots := #[.int 81], vm := .none },
  { cls := 8, slots := #[.int 82], vm := .none },
  { cls := 8, slots := #[.int 83], vm := .none },
  { cls := 8, slots := #[.int 84], vm := .none },
  { cls := 8, slots := #[.int 85], vm := .none },
  { cls := 8, slots := #[.int 86], vm := .none },
  { cls := 8, slots := #[.int 87], vm := .none },
  { cls := 8, slots := #[.int 88], vm := .none },
  { cls := 8, slots := #[.int 89], vm := .none },
  { cls := 8, slots := #[.int 90], vm := .none },
  { cls := 8, slots := #[.int 91], vm := .none },
  { cls := 8, slots := #[.int 92], vm := .none },
  { cls := 8, slots := #[.int 93], vm := .none },
  { cls := 8, slots := #[.int 94], vm := .none },
  { cls := 8, slots := #[.int 95], vm := .none },
  { cls := 8, slots := #[.int 96], vm := .none },
  { cls := 8, slots := #[.int 97], vm := .none },
  { cls := 8, slots := #[.int 98], vm := .none },
  { cls := 8, slots := #[.int 99], vm := .none },
  { cls := 8, slots := #[.int 100], vm := .none },
  { cls := 8, slots := #[.int 101], vm := .none },
  { cls := 8, slots := #[.int 102], vm := .none },
  { cls := 8, slots := #[.int 103], vm := .none },
  { cls := 8, slots := #[.int 104], vm := .none },
  { cls := 8, slots := #[.int 105], vm := .none },
  { cls := 8, slots := #[.int 106], vm := .none },
  { cls := 8, slots := #[.int 107], vm := .none },
  { cls := 8, slots := #[.int 108], vm := .none },
  { cls := 8, slots := #[.int 109], vm := .none },
  { cls := 8, slots := #[.int 110], vm := .none },
  { cls := 8, slots := #[.int 111], vm := .none },
  { cls := 8, slots := #[.int 112], vm := .none },
  { cls := 8, slots := #[.int 113], vm := .none },
  { cls := 8, slots := #[.int 114], vm := .none },
  { cls := 8, slots := #[.int 115], vm := .none },
  { cls := 8, slots := #[.int 116], vm := .none },
  { cls := 8, slots := #[.int 117], vm := .none },
  { cls := 8, slots := #[.int 118], vm := .none },
  { cls := 8, slots := #[.int 119], vm := .none },
  { cls := 8, slots := #[.int 120], vm := .none },
  { cls := 8, slots := #[.int 121], vm := .none },
  { cls := 8, slots := #[.int 122], vm := .none },
  { cls := 8, slots := #[.int 123], vm := .none },
  { cls := 8, slots := #[.int 124], vm := .none },
  { cls := 8, slots := #[.int 125], vm := .none },
  { cls := 8, slots := #[.int 126], vm := .none },
  { cls := 8, slots := #[.int 127], vm := .none }]
def classes : Array Class := #[k0, k1, k2, k3, k4, k5, k6, k7, k8, k9, k10, k11, k12, k13, k14, k15]
def interned : List (Array UInt16 × Addr) := []
def slotsUsed : Nat := 517
def theMethod : MethodId := ⟨1, 2⟩
def args0 : Array Value := #[.int 1, .int 2, .int 3, .int 4, .int 5]
def aboutOver (below : List Frame) : State where
  vm := { classes := classes, interned := interned.toArray }
  heap := heap
  slotsUsed := slotsUsed
  threads := #[{ frames := .invoking theMethod args0 :: below }]
def below0 : List Frame := [.native { method := ⟨0, 0⟩, args := #[] }]
def about1 : State := aboutOver below0
def p0 : Program := .bare "" "" ""
def e0 : Env := launch0.env 0 0 0
theorem w_frames : about1.frames = Frame.invoking theMethod args0 :: below0 := rfl
set_option maxRecDepth 65536 in
theorem w_args : argsFit about1.vm theMethod args0 = true := by decide +kernel
set_option maxRecDepth 65536 in
theorem w_heap : heapFits about1 = true := by decide +kernel
set_option maxRecDepth 65536 in
theorem w_runnable : about1.curStatus? = some .runnable := by decide +kernel
set_option maxRecDepth 65536 in
theorem w_alone : about1.alone = true := by decide +kernel
set_option maxRecDepth 65536 in
theorem w_named : about1.methodNamed? x = some theMethod := by decide +kernel
set_option maxRecDepth 65536 in
theorem w_hears : about1.hears theMethod below0 = true := by decide +kernel
set_option maxRecDepth 65536 in
theorem w_ripe : about1.ripe theMethod args0 below0 = true := by decide +kernel
theorem w_running : about1.status = .running := rfl
set_option maxRecDepth 65536 in
theorem w_room : about1.hasRoom e0.platform room_1 = true :=
  launch0.hasRoom_least _ room_1 (by decide +kernel) (by decide +kernel) (by decide +kernel) (by decide +kernel) (by decide +kernel) (by decide +kernel)
theorem allAtoms_all (ts : List Jvm.Cond) (a : Array Jvm.Value) (st : Jvm.State) : (allAtoms ts).before a st = ts.all (fun c => c.before a st) := by
  induction ts with
  | nil => rfl
  | cons c t ih =>
    show (Jvm.Cond.and c (allAtoms t)).before a st = _
    rw [Jvm.Cond.before_and, ih, List.all_cons]
def words1 : List Jvm.Cond := Jvm.Cond.code x code maxLocals ret :: tables_1
/-- a 'code' word, met by the world's own term for the bytes: nothing is compared byte by byte -/
theorem code_word {y : MethodName} {bytes : ByteArray} {mx : Nat} {rt : Option FieldType} {a : Array Value} {s : State} {m : MethodId} {meth : Method} {c : Code} (h1 : s.methodNamed? y = some m) (h2 : s.vm.method? m = some meth) (h3 : meth.code = some c) (h4 : c.code = bytes)
    (h5 : (c.maxLocals == mx && c.exceptionTable.isEmpty && decide (c.maxStack ≤ mostOperands) && decide (meth.sig.returnType = rt) && !meth.locks && decide (parseMethodDescriptor y.desc = some meth.sig)) = true) : (Jvm.Cond.code y bytes mx rt).before a s = true := by
  simp only [Bool.and_eq_true, beq_iff_eq, Bool.not_eq_true', decide_eq_true_eq] at h5
  obtain ⟨⟨⟨⟨⟨g1, g2⟩, g3⟩, g4⟩, g5⟩, g6⟩ := h5
  simp [Cond.before, Cond.holds, Cond.value, h1, h2, h3, h4, g1, g2, g3, g4, g5, g6]
def isCode : Jvm.Cond → Bool
  | .code _ _ _ _ => true
  | _ => false
theorem all_split {L : List Jvm.Cond} {P : Jvm.Cond → Bool} (h1 : L.all (fun c => isCode c || P c) = true) (h2 : ∀ c ∈ L.filter isCode, P c = true) : L.all P = true := by
  refine List.all_eq_true.mpr fun c hc => ?_
  have h := List.all_eq_true.mp h1 c hc
  rcases Bool.eq_false_or_eq_true (isCode c) with hi | hi
  · exact h2 c (List.mem_filter.mpr ⟨hc, hi⟩)
  · simpa [hi] using h
set_option maxRecDepth 65536 in
theorem w_c0 : (Jvm.Cond.code x code maxLocals ret).before args0 about1 = true := code_word (m := ⟨1, 2⟩) (meth := k1m2) (c := k1c2) (by decide +kernel) rfl rfl rfl (by decide +kernel)
set_option maxRecDepth 65536 in
theorem w_c1 : (Jvm.Cond.code ({ cls := "com/example/even_commute/evencommute/comparison/LinkEndsEqualsPinLaw", name := "pos", desc := "(I)I" } : Jvm.MethodName) method_2_code (2 : Nat) (Option.some Jvm.ClassFile.FieldType.int)).before args0 about1 = true := code_word (m := ⟨1, 1⟩) (meth := k1m1) (c := k1c1) (by decide +kernel) rfl rfl rfl (by decide +kernel)
set_option maxRecDepth 65536 in
theorem w_c2 : (Jvm.Cond.code ({ cls := "com/example/even_commute/evencommute/comparison/LinkEnds", name := "<init>", desc := "(II)V" } : Jvm.MethodName) prog_19_method_1_code (3 : Nat) (Option.none : Option Jvm.ClassFile.FieldType)).before args0 about1 = true := code_word (m := ⟨2, 0⟩) (meth := k2m0) (c := k2c0) (by decide +kernel) rfl rfl rfl (by decide +kernel)
set_option maxRecDepth 65536 in
theorem w_c3 : (Jvm.Cond.code ({ cls := "java/lang/Object", name := "<init>", desc := "()V" } : Jvm.MethodName) object_method_1_code (1 : Nat) (Option.none : Option Jvm.ClassFile.FieldType)).before args0 about1 = true := code_word (m := ⟨0, 0⟩) (meth := k0m0) (c := k0c0) (by decide +kernel) rfl rfl rfl (by decide +kernel)
set_option maxRecDepth 65536 in
theorem w_c4 : (Jvm.Cond.code ({ cls := "com/example/even_commute/evencommute/comparison/LinkEnds", name := "equals", desc := "(Ljava/lang/Object;)Z" } : Jvm.MethodName) prog_19_method_4_code (3 : Nat) (Option.some Jvm.ClassFile.FieldType.boolean)).before args0 about1 = true := code_word (m := ⟨2, 1⟩) (meth := k2m1) (c := k2c1) (by decide +kernel) rfl rfl rfl (by decide +kernel)
set_option maxRecDepth 65536 in
theorem w_c5 : (Jvm.Cond.code ({ cls := "java/lang/Integer", name := "valueOf", desc := "(I)Ljava/lang/Integer;" } : Jvm.MethodName) jdk_33_method_22_code (1 : Nat) (Option.some (Jvm.ClassFile.FieldType.object "java/lang/Integer"))).before args0 about1 = true := code_word (m := ⟨8, 0⟩) (meth := k8m0) (c := k8c0) (by decide +kernel) rfl rfl rfl (by decide +kernel)
set_option maxRecDepth 65536 in
theorem w_c6 : (Jvm.Cond.code ({ cls := "java/lang/Integer", name := "<init>", desc := "(I)V" } : Jvm.MethodName) jdk_33_method_23_code (2 : Nat) (Option.none : Option Jvm.ClassFile.FieldType)).before args0 about1 = true := code_word (m := ⟨8, 1⟩) (meth := k8m1) (c := k8c1) (by decide +kernel) rfl rfl rfl (by decide +kernel)
set_option maxRecDepth 65536 in
theorem w_c7 : (Jvm.Cond.code ({ cls := "java/lang/Number", name := "<init>", desc := "()V" } : Jvm.MethodName) jdk_18_method_1_code (1 : Nat) (Option.none : Option Jvm.ClassFile.FieldType)).before args0 about1 = true := code_word (m := ⟨4, 0⟩) (meth := k4m0) (c := k4c0) (by decide +kernel) rfl rfl rfl (by decide +kernel)
def codes1 : List Jvm.Cond := [Jvm.Cond.code x code maxLocals ret, Jvm.Cond.code ({ cls := "com/example/even_commute/evencommute/comparison/LinkEndsEqualsPinLaw", name := "pos", desc := "(I)I" } : Jvm.MethodName) method_2_code (2 : Nat) (Option.some Jvm.ClassFile.FieldType.int), Jvm.Cond.code ({ cls := "com/example/even_commute/evencommute/comparison/LinkEnds", name := "<init>", desc := "(II)V" } : Jvm.MethodName) prog_19_method_1_code (3 : Nat) (Option.none : Option Jvm.ClassFile.FieldType), Jvm.Cond.code ({ cls := "java/lang/Object", name := "<init>", desc := "()V" } : Jvm.MethodName) object_method_1_code (1 : Nat) (Option.none : Option Jvm.ClassFile.FieldType), Jvm.Cond.code ({ cls := "com/example/even_commute/evencommute/comparison/LinkEnds", name := "equals", desc := "(Ljava/lang/Object;)Z" } : Jvm.MethodName) prog_19_method_4_code (3 : Nat) (Option.some Jvm.ClassFile.FieldType.boolean), Jvm.Cond.code ({ cls := "java/lang/Integer", name := "valueOf", desc := "(I)Ljava/lang/Integer;" } : Jvm.MethodName) jdk_33_method_22_code (1 : Nat) (Option.some (Jvm.ClassFile.FieldType.object "java/lang/Integer")), Jvm.Cond.code ({ cls := "java/lang/Integer", name := "<init>", desc := "(I)V" } : Jvm.MethodName) jdk_33_method_23_code (2 : Nat) (Option.none : Option Jvm.ClassFile.FieldType), Jvm.Cond.code ({ cls := "java/lang/Number", name := "<init>", desc := "()V" } : Jvm.MethodName) jdk_18_method_1_code (1 : Nat) (Option.none : Option Jvm.ClassFile.FieldType)]
set_option maxRecDepth 65536 in
theorem codes_eq : words1.filter isCode = codes1 := rfl
theorem w_codes : ∀ c ∈ words1.filter isCode, c.before args0 about1 = true := by
  rw [codes_eq]
  intro c hc
  simp only [codes1, List.mem_cons, List.not_mem_nil, or_false] at hc
  rcases hc with rfl | rfl | rfl | rfl | rfl | rfl | rfl | rfl
  · exact w_c0
  · exact w_c1
  · exact w_c2
  · exact w_c3
  · exact w_c4
  · exact w_c5
  · exact w_c6
  · exact w_c7
set_option maxRecDepth 65536 in
theorem w_t1 : (words1.take 24).all (fun c => isCode c || c.before args0 about1) = true := by decide +kernel
set_option maxRecDepth 65536 in
theorem w_t2 : ((words1.drop 24).take 24).all (fun c => isCode c || c.before args0 about1) = true := by decide +kernel
set_option maxRecDepth 65536 in
theorem w_t3 : ((words1.drop 24).drop 24).all (fun c => isCode c || c.before args0 about1) = true := by decide +kernel
theorem w_tables : (allAtoms (Jvm.Cond.code x code maxLocals ret :: tables_1)).before args0 about1 = true := by
  rw [allAtoms_all]
  show words1.all (fun c => c.before args0 about1) = true
  refine all_split ?_ w_codes
  rw [← List.take_append_drop 24 words1, List.all_append, w_t1, ← List.take_append_drop 24 (words1.drop 24), List.all_append, w_t2, w_t3]
  rfl
set_option maxRecDepth 65536 in
theorem w_rest : rest_1_c.before args0 about1 = true := by decide +kernel
set_option maxRecDepth 65536 in
theorem w_case : (Jvm.Cond.and given_1 narrow_1).before args0 about1 = true := by decide +kernel
theorem w_applies : (headSpec (Jvm.Cond.code x code maxLocals ret :: tables_1) room_1).applies x e0.platform about1 = true :=
  (Spec.applies_iff w_frames).mpr ⟨w_running, w_runnable, w_alone, w_named, w_hears, w_ripe, w_room, w_tables⟩
theorem atStart : AtStart classFile x code maxLocals ret World_1 tables_1 room_1 Calls_1 rest_1 Pre_1 launch0 p0 e0 about1 theMethod args0 below0 :=
  ⟨lists_1, trivial, launch0.admits_env _ _ _, launch0.least_env, fairChoices_fair.cas, fairChoices_fair.clock, w_frames, w_args, w_heap, w_applies, trivial, w_rest, w_case⟩
end start1
theorem witness_1 : WitnessClaimed_1 := ⟨start1.p0, start1.e0, start1.about1, start1.theMethod, start1.args0, start1.below0, start1.atStart⟩
end Jvm.Pilot.@@N@@
