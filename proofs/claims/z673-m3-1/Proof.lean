import JvmDerived
import JvmDerived.Pilot.@@N@@Statement
import JvmDerived.Pilot.@@N@@Code
set_option linter.unusedVariables false
set_option linter.unusedSimpArgs false
namespace Jvm.Pilot.@@N@@
open Jvm Jvm.ClassFile Sem Op Lib Jvm.Free Jvm.Stand Jvm.LawKit Jvm.RoadKit Bundle Jvm.Pilot.@@N@@.Jvm.D
/-! 0. the walk's goal, and how a step leads to it -/
def OGoal (p : Program) (e : Env) (below : List Frame) (Φ : Outcome → State → Prop) (T : State) (g : JFrame) : Prop :=
  ∃ s₂ o, Steps p.tables e below (T.setTop g) s₂ ∧ s₂.status = .running ∧ Ended s₂ below o ∧ Φ o s₂
theorem own_by {p : Program} {e : Env} {below : List Frame} {Φ : Outcome → State → Prop} {T T' : State} {g g' : JFrame}
    (st : ∀ t, Steps p.tables e below (T'.setTop g') t → Steps p.tables e below (T.setTop g) t) (G : OGoal p e below Φ T' g') : OGoal p e below Φ T g := by
  obtain ⟨s₂, o, h1, h2⟩ := G
  exact ⟨s₂, o, st _ h1, h2⟩
theorem own_enter {p : Program} {e : Env} {below : List Frame} {Φ : Outcome → State → Prop} {T : State} {g g' : JFrame} (q : g = g') (G : OGoal p e below Φ T g') :
    ∃ s₂ o, Steps p.tables e below (T.setTop g) s₂ ∧ s₂.status = .running ∧ Ended s₂ below o ∧ Φ o s₂ := by subst q; exact G
theorem own_kext {h h' : Heap} (E : Ext h h') : Keep h h' [] := (Keep.refl h []).ext E
theorem own_narR {ty : FieldType} {v : Value} (hty : ty.isReference = true) (h : v.isRef = true) : narrow ty v = v := by
  rcases ref_cases h with rfl | ⟨a, rfl⟩ <;> cases ty <;> first | rfl | (cases hty)
theorem own_fitR {ty : FieldType} {v : Value} (hty : ty.isReference = true) (h : v.isRef = true) : fits ty v = true := by
  rcases ref_cases h with rfl | ⟨a, rfl⟩ <;> cases ty <;> first | rfl | (cases hty)
theorem own_narC (x : Int32) : nar .char (x.toUInt32.toUInt16.toUInt32.toInt32) = x.toUInt32.toUInt16.toUInt32.toInt32 := by
  show (x.toUInt32.toUInt16.toUInt32.toInt32).toUInt32.toUInt16.toUInt32.toInt32 = _
  simp only [UInt32.toUInt32_toInt32, UInt16.toUInt16_toUInt32]
theorem own_narB (x : Int32) : nar .byte (x.toInt8.toInt32) = x.toInt8.toInt32 := by
  show (x.toInt8.toInt32).toInt8.toInt32 = _
  simp
theorem own_fldI {Z : State} {args : Array Value} {t : Term} {a : Addr} {C n d : String} {k : Int32} (ev : t.eval args Z none [] Z = some (.ref a)) (h : (Jvm.Cond.eq (.field t C n d) (.int k)).value args Z none Z [] = some true) : Fld Z Z.heap a C n d (.int k) :=
  Fld.start ((fld_at ev).symm.trans (eqv_i (Term.int_eval k) h))
theorem own_fldJ {Z : State} {args : Array Value} {t : Term} {a : Addr} {C n d : String} {k : Int64} (ev : t.eval args Z none [] Z = some (.ref a)) (h : (Jvm.Cond.eq (.field t C n d) (.long k)).value args Z none Z [] = some true) : Fld Z Z.heap a C n d (.long k) :=
  Fld.start ((fld_at ev).symm.trans (eqv_l (F := .long k) rfl h))
theorem own_len {Z : State} {args : Array Value} {t : Term} {a : Addr} {c : Cell} {ty : FieldType} {n : Int32} (ev : t.eval args Z none [] Z = some (.ref a)) (A : Arr Z Z.heap a c ty) (h : (Jvm.Cond.eq (.length t) (.int n)).value args Z none Z [] = some true) : c.slots.size < 2 ^ 31 ∧ c.slots.size.toInt32 = n := by
  have e1 := eqv_i (Term.int_eval n) h
  have ha := A.fin (Vm.Alike.refl _)
  simp only [Term.eval, ev, Option.bind_eq_bind, Option.bind_some, ha] at e1
  split at e1
  · rename_i q; exact ⟨q, by simpa using e1⟩
  · cases e1
theorem own_bxF {Z : State} {args : Array Value} {j : Int32} (nn : ¬ j < 0) : (Term.sub (.index 0) (.int (128 : Int32))).eval args Z none [j.toNatClampNeg] Z = some (.int (j - (128 : Int32))) := by
  have e := idx_at (args := args) (s := Z) (first := Z) (o := none) nn
  simp only [Term.eval] at e ⊢
  rw [e]
  rfl
def Glob (Z : State) (wC : Addr) (cC : Cell) (zC : Int32) (wO : Addr) : Prop := Sta Z Z.heap "java/lang/Integer$IntegerCache" "high" "I" (.int (127 : Int32)) ∧ Sta Z Z.heap "java/lang/Integer$IntegerCache" "cache" "[Ljava/lang/Integer;" (.ref wC) ∧ Bxs Z wC cC "java/lang/Integer" "I" (256 : Int32) (fun j => Value.int (j - (128 : Int32))) ∧ Sta Z Z.heap "java/lang/String" "COMPACT_STRINGS" "Z" (.int zC) ∧ ¬ zC = (0 : Int32) ∧ Sta Z Z.heap "java/util/Optional" "EMPTY" "Ljava/util/Optional;" (.ref wO) ∧ Exa Z Z.heap wO "java/util/Optional" ∧ Fld Z Z.heap wO "java/util/Optional" "value" "Ljava/lang/Object;" .null
theorem own_le255 (x : Int32) : ¬ (255 : Int32) < (x &&& (255 : Int32)).toUInt32.toUInt16.toUInt32.toInt32 := by
  rw [i2c_mask, Int32.lt_iff_toInt_lt]
  have := c_and x (255 : Int32) (by decide)
  omega
theorem own_bxin (n : Int32) (h1 : ¬ n < (-128 : Int32)) (h2 : ¬ (127 : Int32) < n) : ¬ (n + (128 : Int32)) < 0 ∧ (n + (128 : Int32)) < (256 : Int32) := by
  rw [Int32.lt_iff_toInt_lt] at h1 h2
  have c := c_iadd n (128 : Int32)
  have a := Int32.le_toInt (n + (128 : Int32))
  have b := Int32.toInt_lt (n + (128 : Int32))
  rw [Int32.lt_iff_toInt_lt, Int32.lt_iff_toInt_lt, show (0 : Int32).toInt = 0 from rfl, show (256 : Int32).toInt = 256 from rfl]
  rw [show (128 : Int32).toInt = 128 from rfl] at c
  rw [show (-128 : Int32).toInt = -128 from rfl] at h1
  rw [show (127 : Int32).toInt = 127 from rfl] at h2
  omega
theorem own_d27_0 : decode jdk_18_method_1_code 0 = .ok (.aload_n 0, 1) := by decide +kernel
theorem own_d27_1 : decode jdk_18_method_1_code 1 = .ok (.invokespecial 1, 3) := by decide +kernel
theorem own_d27_4 : decode jdk_18_method_1_code 4 = .ok (.return_, 1) := by decide +kernel
theorem own_pn_java_lang_Number : plainName "java/lang/Number" = true := by first | (simp [plainName, overriddenIn]; done) | decide +kernel
theorem own_ef_rmNum (m : MethodId) (x0 : Addr) : entryFrame m #[(.ref x0)] 1 = mkF m 0 #[.val (.ref x0)] [] := by first | (simp [entryFrame, mkF, argsToLocals, Value.category]; done) | rfl
def Q_rmNum (Z : State) (wC : Addr) (cC : Cell) (zC : Int32) (wO : Addr) (a : Addr) (h0 : Heap) (n0 : Nat) (vv_ : Option Value) (hh_ : Heap) (LL_ : List Loc) : Prop := vv_ = none ∧ Fr n0 LL_ ∧ hh_ = h0
set_option maxRecDepth 65536 in
set_option maxHeartbeats 40000000 in
theorem rmNum (l : Launch) (Z : State) (a0 : Array Value) (hw : ∀ d ∈ tables_1, d.before a0 Z = true) (ws : List Jvm.Cond) (wC : Addr) (cC : Cell) (zC : Int32) (wO : Addr) (GS : Glob Z wC cC zC wO) (a : Addr) (h0 : Heap) (n0 : Nat) (Z0 : n0 ≤ h0.size) (O0 : Old Z n0 h0) :
    MetFree l (⟨"java/lang/Number", "<init>", "()V"⟩ : MethodName) (head1 (Jvm.Cond.code (⟨"java/lang/Number", "<init>", "()V"⟩ : MethodName) jdk_18_method_1_code 1 none :: ws) ({ frames := 1, cells := 0, slots := 0, locals := 12 } : Room)) (fun aa_ UU_ => aa_ = #[(.ref a)] ∧ Z.Warmed39 UU_.vm ∧ UU_.heap = h0) (fun _ _ _ _ _ => True) (fun _ UU_ oo_ UV_ => ∃ vv_ LL_, oo_ = .returned vv_ ∧ Q_rmNum Z wC cC zC wO a h0 n0 vv_ UV_.heap LL_ ∧ FrameEnd UU_ oo_ UV_ LL_ ({ frames := 1, cells := 0, slots := 0, locals := 12 } : Room).cells ({ frames := 1, cells := 0, slots := 0, locals := 12 } : Room).slots) := by
  refine MetFree.of_bodySF (plainFor_of_name own_pn_java_lang_Number) hisR ?_
  intro p e s m args below meth c s₁ Bd hml0 hP hK
  obtain ⟨rfl, hZ, hh⟩ := hP
  have hx := Bd.exec
  have hby := Bd.bytes
  have hml : c.maxLocals = 1 := hml0
  have hown : s.vm.findClass "java/lang/Number" = some m.cls := findClass_of_methodNamed Bd.named
  have hnm := (name_of_methodNamed Bd.named Bd.method).1
  have X0 : Stand p l e ({ frames := 1, cells := 0, slots := 0, locals := 12 } : Room) s m #[(.ref a)] below meth c s₁ [] 0 0 := Stand.of_body Bd
  have e0 : s₁.heap = h0 := by rw [← hh, Bd.state]; rfl
  have N0 := Fr.nil n0
  have hn0 : Z.heap.size = n0 := O0.1
  have KT0 : Keep h0 h0 [] := Keep.refl _ _
  refine own_enter (Φ := fun oo_ UV_ => ∃ vv_ LL_, oo_ = .returned vv_ ∧ Q_rmNum Z wC cC zC wO a h0 n0 vv_ UV_.heap LL_ ∧ FrameEnd s oo_ UV_ LL_ ({ frames := 1, cells := 0, slots := 0, locals := 12 } : Room).cells ({ frames := 1, cells := 0, slots := 0, locals := 12 } : Room).slots) (own_ef_rmNum m a) ?_
  refine own_by (T' := s₁) (g' := (mkF m 1 #[.val (.ref a)] [(.ref a)])) (fun _ kt_ => XS.aloadN X0.here hx rfl (hb hby own_d27_0) rfl rfl kt_) ?_
  obtain ⟨T1, X1, e1, st1⟩ := initO X0 hx hZ hown (hw _ (List.mem_of_getElem? (i := 173) rfl)) (hw _ (List.mem_of_getElem? (i := 16) rfl)) (hw _ (List.mem_of_getElem? (i := 17) rfl)) e0 (g := (mkF m 1 #[.val (.ref a)] [(.ref a)])) rfl (by rw [hml]; rfl) rfl (hb hby own_d27_1) (by decide) (W := 0) (by show 2 * 0 + _ ≤ _; exact Nat.le_of_eq rfl) (by decide)
  refine own_by (T' := T1) (g' := (mkF m 4 #[.val (.ref a)] [])) st1 ?_
  obtain ⟨fs2, hr2, hrun2, hended2, hW2, hsame2⟩ := X1.leave (v := none) (fun _ => rfl)
  refine ⟨_, _, X1.returnOut hx Bd.returns (hb hby own_d27_4) hr2, hrun2, hended2, _, _, rfl, ?_, ⟨_, rfl⟩, hW2, hsame2.mono (by decide) (by decide)⟩
  show Q_rmNum Z wC cC zC wO a h0 n0 _ T1.heap _
  exact ⟨rfl, N0, e1⟩
theorem own_pd_0 : parseMethodDescriptor "()V" = some ⟨[], none⟩ := by decide +kernel
theorem own_d26_0 : decode jdk_33_method_23_code 0 = .ok (.aload_n 0, 1) := by decide +kernel
theorem own_d26_1 : decode jdk_33_method_23_code 1 = .ok (.invokespecial 202, 3) := by decide +kernel
theorem own_d26_4 : decode jdk_33_method_23_code 4 = .ok (.aload_n 0, 1) := by decide +kernel
theorem own_d26_5 : decode jdk_33_method_23_code 5 = .ok (.iload_n 1, 1) := by decide +kernel
theorem own_d26_6 : decode jdk_33_method_23_code 6 = .ok (.putfield 205, 3) := by decide +kernel
theorem own_d26_9 : decode jdk_33_method_23_code 9 = .ok (.return_, 1) := by decide +kernel
theorem own_pn_java_lang_Integer : plainName "java/lang/Integer" = true := by first | (simp [plainName, overriddenIn]; done) | decide +kernel
theorem own_ef_rmIntI (m : MethodId) (x0 : Addr) (x1 : Int32) : entryFrame m #[(.ref x0), (.int x1)] 2 = mkF m 0 #[.val (.ref x0), .val (.int x1)] [] := by first | (simp [entryFrame, mkF, argsToLocals, Value.category]; done) | rfl
def Q_rmIntI (Z : State) (wC : Addr) (cC : Cell) (zC : Int32) (wO : Addr) (a : Addr) (n : Int32) (h0 : Heap) (n0 : Nat) (vv_ : Option Value) (hh_ : Heap) (LL_ : List Loc) : Prop := vv_ = none ∧ Fr n0 LL_ ∧ Keep h0 hh_ [a] ∧ Fld Z hh_ a "java/lang/Integer" "value" "I" (.int n)
set_option maxRecDepth 65536 in
set_option maxHeartbeats 40000000 in
theorem rmIntI (l : Launch) (Z : State) (a0 : Array Value) (hw : ∀ d ∈ tables_1, d.before a0 Z = true) (ws : List Jvm.Cond) (wC : Addr) (cC : Cell) (zC : Int32) (wO : Addr) (GS : Glob Z wC cC zC wO) (a : Addr) (n : Int32) (h0 : Heap) (n0 : Nat) (Z0 : n0 ≤ h0.size) (O0 : Old Z n0 h0) (E_a : Exa Z h0 a "java/lang/Integer") (g_a : n0 ≤ a) (F_value : Fld Z h0 a "java/lang/Integer" "value" "I" (.int (0 : Int32))) :
    MetFree l (⟨"java/lang/Integer", "<init>", "(I)V"⟩ : MethodName) (head1 (Jvm.Cond.code (⟨"java/lang/Integer", "<init>", "(I)V"⟩ : MethodName) jdk_33_method_23_code 2 none :: ws) ({ frames := 2, cells := 0, slots := 0, locals := 24 } : Room)) (fun aa_ UU_ => aa_ = #[(.ref a), (.int n)] ∧ Z.Warmed39 UU_.vm ∧ UU_.heap = h0) (fun _ _ _ _ _ => True) (fun _ UU_ oo_ UV_ => ∃ vv_ LL_, oo_ = .returned vv_ ∧ Q_rmIntI Z wC cC zC wO a n h0 n0 vv_ UV_.heap LL_ ∧ FrameEnd UU_ oo_ UV_ LL_ ({ frames := 2, cells := 0, slots := 0, locals := 24 } : Room).cells ({ frames := 2, cells := 0, slots := 0, locals := 24 } : Room).slots) := by
  refine MetFree.of_bodySF (plainFor_of_name own_pn_java_lang_Integer) hisR ?_
  intro p e s m args below meth c s₁ Bd hml0 hP hK
  obtain ⟨rfl, hZ, hh⟩ := hP
  have hx := Bd.exec
  have hby := Bd.bytes
  have hml : c.maxLocals = 2 := hml0
  have hown : s.vm.findClass "java/lang/Integer" = some m.cls := findClass_of_methodNamed Bd.named
  have hnm := (name_of_methodNamed Bd.named Bd.method).1
  have X0 : Stand p l e ({ frames := 2, cells := 0, slots := 0, locals := 24 } : Room) s m #[(.ref a), (.int n)] below meth c s₁ [] 0 0 := Stand.of_body Bd
  have e0 : s₁.heap = h0 := by rw [← hh, Bd.state]; rfl
  have N0 := Fr.nil n0
  have hn0 : Z.heap.size = n0 := O0.1
  have KT0 : Keep h0 h0 [a] := Keep.refl _ _
  refine own_enter (Φ := fun oo_ UV_ => ∃ vv_ LL_, oo_ = .returned vv_ ∧ Q_rmIntI Z wC cC zC wO a n h0 n0 vv_ UV_.heap LL_ ∧ FrameEnd s oo_ UV_ LL_ ({ frames := 2, cells := 0, slots := 0, locals := 24 } : Room).cells ({ frames := 2, cells := 0, slots := 0, locals := 24 } : Room).slots) (own_ef_rmIntI m a n) ?_
  refine own_by (T' := s₁) (g' := (mkF m 1 #[.val (.ref a), .val (.int n)] [(.ref a)])) (fun _ kt_ => XS.aloadN X0.here hx rfl (hb hby own_d26_0) rfl rfl kt_) ?_
  obtain ⟨_, _, ⟨T1, L1, k1, n1⟩, -, X1, ⟨Lc1, hQ1, l1, y1, z1⟩, st1⟩ := X0.specialBack hx (y := (⟨"java/lang/Number", "<init>", "()V"⟩ : MethodName)) rfl hown (mvT hZ (hw _ (List.mem_of_getElem? (i := 167) rfl))) (mvT hZ (hw _ (List.mem_of_getElem? (i := 168) rfl))) (mvT hZ (hw _ (List.mem_of_getElem? (i := 172) rfl))) (by decide) (backOf (W := 0) (rmNum l Z a0 hw [] wC cC zC wO GS a h0 n0 (by omega) O0 ) hZ (hw _ (List.mem_of_getElem? (i := 172) rfl)) (hw _ (List.mem_of_getElem? (i := 171) rfl)) (by decide) (by decide)) (g := (mkF m 1 #[.val (.ref a), .val (.int n)] [(.ref a)])) rfl (by rw [hml]; rfl) (Steps.refl _) (a := a) (argsL := []) (rest := []) (lenOf own_pd_0 rfl) rfl (by show 2 * 0 + _ ≤ _; exact Nat.le_of_eq rfl) (hb hby own_d26_1) (fun _ _ => ⟨rfl, e0, (by decide : 0 + 0 ≤ _), (by decide : 0 + 0 ≤ _)⟩)
  dsimp only [Pt.U, Pt.locs, Pt.cells, Pt.slots] at X1 l1 y1 z1 st1 hQ1
  subst l1 y1 z1
  obtain ⟨rfl, N1q, e1⟩ := hQ1
  have N2 := Fr.app N0 N1q
  refine own_by (T' := T1) (g' := (mkF m 4 #[.val (.ref a), .val (.int n)] [])) (fun _ kt_ => st1.trans kt_) ?_
  refine own_by (T' := T1) (g' := (mkF m 5 #[.val (.ref a), .val (.int n)] [(.ref a)])) (fun _ kt_ => XS.aloadN X1.here hx rfl (hb hby own_d26_4) rfl rfl kt_) ?_
  refine own_by (T' := T1) (g' := (mkF m 6 #[.val (.ref a), .val (.int n)] [(.int n), (.ref a)])) (fun _ kt_ => XS.iloadN X1.here hx rfl (hb hby own_d26_5) rfl kt_) ?_
  obtain ⟨T3, h3, X3, e3, W3, st3⟩ := putF X1 hx hZ hown (host := "") (Or.inl (hw _ (List.mem_of_getElem? (i := 174) rfl))) Via.refl e1 F_value E_a (Or.inr ⟨(hw _ (List.mem_of_getElem? (i := 175) rfl)), rfl, hnm⟩) (hw _ (List.mem_of_getElem? (i := 162) rfl)) (ty := .int) (by decide) rfl rfl (g := (mkF m 6 #[.val (.ref a), .val (.int n)] [(.int n), (.ref a)])) rfl rfl (hb hby own_d26_6)
  have K4 : Keep h0 h3 [a] := Keep.of_wr W3
  have zzK4 : h0.size ≤ h3.size := K4.1
  have oo5 : Old Z n0 h3 := O0.keep K4 (allS (by omega : n0 ≤ a) all0)
  have kt6 : Keep h0 h3 [a] := KT0.trans K4 (allS (Or.inl (List.mem_of_getElem? (i := 0) rfl)) all0)
  have f7 : Fld Z h3 a "java/lang/Integer" "value" "I" (.int n) := F_value.same W3
  have N8 := Fr.snoc X3 N2 (by omega : n0 ≤ a)
  refine own_by (T' := T3) (g' := (mkF m 9 #[.val (.ref a), .val (.int n)] [])) st3 ?_
  obtain ⟨fs9, hr9, hrun9, hended9, hW9, hsame9⟩ := X3.leave (v := none) (fun _ => rfl)
  refine ⟨_, _, X3.returnOut hx Bd.returns (hb hby own_d26_9) hr9, hrun9, hended9, _, _, rfl, ?_, ⟨_, rfl⟩, hW9, hsame9.mono (by decide) (by decide)⟩
  show Q_rmIntI Z wC cC zC wO a n h0 n0 _ T3.heap _
  rw [e3]
  exact ⟨rfl, N8, kt6, f7⟩
theorem own_pd_1 : parseMethodDescriptor "(I)V" = some ⟨[.int], none⟩ := by decide +kernel
theorem own_d11_0 : decode jdk_33_method_22_code 0 = .ok (.iload_n 0, 1) := by decide +kernel
theorem own_d11_1 : decode jdk_33_method_22_code 1 = .ok (.bipush (-128), 2) := by decide +kernel
theorem own_d11_3 : decode jdk_33_method_22_code 3 = .ok (.if_icmp .lt 20, 3) := by decide +kernel
theorem own_d11_6 : decode jdk_33_method_22_code 6 = .ok (.iload_n 0, 1) := by decide +kernel
theorem own_d11_7 : decode jdk_33_method_22_code 7 = .ok (.getstatic 191, 3) := by decide +kernel
theorem own_d11_10 : decode jdk_33_method_22_code 10 = .ok (.if_icmp .gt 13, 3) := by decide +kernel
theorem own_d11_13 : decode jdk_33_method_22_code 13 = .ok (.getstatic 195, 3) := by decide +kernel
theorem own_d11_16 : decode jdk_33_method_22_code 16 = .ok (.iload_n 0, 1) := by decide +kernel
theorem own_d11_17 : decode jdk_33_method_22_code 17 = .ok (.sipush 128, 3) := by decide +kernel
theorem own_d11_20 : decode jdk_33_method_22_code 20 = .ok (.iadd, 1) := by decide +kernel
theorem own_d11_21 : decode jdk_33_method_22_code 21 = .ok (.aaload, 1) := by decide +kernel
theorem own_d11_22 : decode jdk_33_method_22_code 22 = .ok (.areturn, 1) := by decide +kernel
theorem own_d11_23 : decode jdk_33_method_22_code 23 = .ok (.new 1, 3) := by decide +kernel
theorem own_d11_26 : decode jdk_33_method_22_code 26 = .ok (.dup, 1) := by decide +kernel
theorem own_d11_27 : decode jdk_33_method_22_code 27 = .ok (.iload_n 0, 1) := by decide +kernel
theorem own_d11_28 : decode jdk_33_method_22_code 28 = .ok (.invokespecial 199, 3) := by decide +kernel
theorem own_d11_31 : decode jdk_33_method_22_code 31 = .ok (.areturn, 1) := by decide +kernel
theorem own_ef_rmValI (m : MethodId) (x0 : Int32) : entryFrame m #[(.int x0)] 1 = mkF m 0 #[.val (.int x0)] [] := by first | (simp [entryFrame, mkF, argsToLocals, Value.category]; done) | rfl
def Q_rmValI (Z : State) (wC : Addr) (cC : Cell) (zC : Int32) (wO : Addr) (n : Int32) (h0 : Heap) (n0 : Nat) (vv_ : Option Value) (hh_ : Heap) (LL_ : List Loc) : Prop := ∃ b : Addr, vv_ = some (.ref b) ∧ Fr n0 LL_ ∧ Keep h0 hh_ [] ∧ Exa Z hh_ b "java/lang/Integer" ∧ Fld Z hh_ b "java/lang/Integer" "value" "I" (.int n)
set_option maxRecDepth 65536 in
set_option maxHeartbeats 40000000 in
theorem rmValI (l : Launch) (Z : State) (a0 : Array Value) (hw : ∀ d ∈ tables_1, d.before a0 Z = true) (ws : List Jvm.Cond) (wC : Addr) (cC : Cell) (zC : Int32) (wO : Addr) (GS : Glob Z wC cC zC wO) (n : Int32) (h0 : Heap) (n0 : Nat) (Z0 : n0 ≤ h0.size) (O0 : Old Z n0 h0) :
    MetFree l (⟨"java/lang/Integer", "valueOf", "(I)Ljava/lang/Integer;"⟩ : MethodName) (head1 (Jvm.Cond.code (⟨"java/lang/Integer", "valueOf", "(I)Ljava/lang/Integer;"⟩ : MethodName) jdk_33_method_22_code 1 (some (.object "java/lang/Integer")) :: ws) ({ frames := 3, cells := 1, slots := 1, locals := 38 } : Room)) (fun aa_ UU_ => aa_ = #[(.int n)] ∧ Z.Warmed39 UU_.vm ∧ UU_.heap = h0) (fun _ _ _ _ _ => True) (fun _ UU_ oo_ UV_ => ∃ vv_ LL_, oo_ = .returned vv_ ∧ Q_rmValI Z wC cC zC wO n h0 n0 vv_ UV_.heap LL_ ∧ FrameEnd UU_ oo_ UV_ LL_ ({ frames := 3, cells := 1, slots := 1, locals := 38 } : Room).cells ({ frames := 3, cells := 1, slots := 1, locals := 38 } : Room).slots) := by
  refine MetFree.of_bodySF (plainFor_of_name own_pn_java_lang_Integer) hisR ?_
  intro p e s m args below meth c s₁ Bd hml0 hP hK
  obtain ⟨rfl, hZ, hh⟩ := hP
  have hx := Bd.exec
  have hby := Bd.bytes
  have hml : c.maxLocals = 1 := hml0
  have hown : s.vm.findClass "java/lang/Integer" = some m.cls := findClass_of_methodNamed Bd.named
  have hnm := (name_of_methodNamed Bd.named Bd.method).1
  have X0 : Stand p l e ({ frames := 3, cells := 1, slots := 1, locals := 38 } : Room) s m #[(.int n)] below meth c s₁ [] 0 0 := Stand.of_body Bd
  have e0 : s₁.heap = h0 := by rw [← hh, Bd.state]; rfl
  have N0 := Fr.nil n0
  have hn0 : Z.heap.size = n0 := O0.1
  have KT0 : Keep h0 h0 [] := Keep.refl _ _
  refine own_enter (Φ := fun oo_ UV_ => ∃ vv_ LL_, oo_ = .returned vv_ ∧ Q_rmValI Z wC cC zC wO n h0 n0 vv_ UV_.heap LL_ ∧ FrameEnd s oo_ UV_ LL_ ({ frames := 3, cells := 1, slots := 1, locals := 38 } : Room).cells ({ frames := 3, cells := 1, slots := 1, locals := 38 } : Room).slots) (own_ef_rmValI m n) ?_
  refine own_by (T' := s₁) (g' := (mkF m 1 #[.val (.int n)] [(.int n)])) (fun _ kt_ => XS.iloadN X0.here hx rfl (hb hby own_d11_0) rfl kt_) ?_
  refine own_by (T' := s₁) (g' := (mkF m 3 #[.val (.int n)] [(.int (-128 : Int32)), (.int n)])) (fun _ kt_ => XS.bipush X0.here hx rfl (hb hby own_d11_1) kt_) ?_
  by_cases hc1 : n < (-128 : Int32)
  · refine own_by (T' := s₁) (g' := (mkF m 23 #[.val (.int n)] [])) (fun _ kt_ => XS.icmpYes X0.here hx rfl (pc0 := 3) (pc' := 23) rfl (hb hby own_d11_3) rfl (XT.ii_lt_t hc1) (by decide) (by decide) kt_) ?_
    obtain ⟨T2, h2, X2, e2, E2, A2, D2, -, st2⟩ := newO X0 hx hZ hown (hw _ (List.mem_of_getElem? (i := 161) rfl)) (hw _ (List.mem_of_getElem? (i := 162) rfl)) (hw _ (List.mem_of_getElem? (i := 65) rfl)) e0 (g := (mkF m 23 #[.val (.int n)] [])) rfl (hb hby own_d11_23) (by decide) (by decide)
    obtain ⟨b2, g2⟩ : ∃ z, z = h0.size := ⟨_, rfl⟩
    rw [← g2] at A2 D2 st2
    have K3 : Keep h0 h2 [] := own_kext E2
    have zzK3 : h0.size ≤ h2.size := K3.1
    have oo4 : Old Z n0 h2 := O0.keep K3 all0
    have kt5 : Keep h0 h2 [] := KT0.trans K3 all0
    have lab2 : b2 < h2.size := A2.lt
    have f6 : Fld Z h2 b2 "java/lang/Integer" "value" "I" (.int (0 : Int32)) := D2 (Or.inr (hw _ (List.mem_of_getElem? (i := 175) rfl))) (ty := .int) (by decide)
    refine own_by (T' := T2) (g' := (mkF m 26 #[.val (.int n)] [(.ref b2)])) st2 ?_
    refine own_by (T' := T2) (g' := (mkF m 27 #[.val (.int n)] [(.ref b2), (.ref b2)])) (fun _ kt_ => XS.dup X2.here hx rfl (hb hby own_d11_26) rfl rfl kt_) ?_
    refine own_by (T' := T2) (g' := (mkF m 28 #[.val (.int n)] [(.int n), (.ref b2), (.ref b2)])) (fun _ kt_ => XS.iloadN X2.here hx rfl (hb hby own_d11_27) rfl kt_) ?_
    obtain ⟨_, _, ⟨T7, L7, k7, n7⟩, -, X7, ⟨Lc7, hQ7, l7, y7, z7⟩, st7⟩ := X2.specialBack hx (y := (⟨"java/lang/Integer", "<init>", "(I)V"⟩ : MethodName)) rfl hown (mvT hZ (hw _ (List.mem_of_getElem? (i := 163) rfl))) (mvT hZ (hw _ (List.mem_of_getElem? (i := 164) rfl))) (mvT hZ (hw _ (List.mem_of_getElem? (i := 166) rfl))) (by decide) (backOf (W := 1) (rmIntI l Z a0 hw [] wC cC zC wO GS b2 n h2 n0 (by omega) oo4 A2 (by omega) f6) hZ (hw _ (List.mem_of_getElem? (i := 166) rfl)) (hw _ (List.mem_of_getElem? (i := 65) rfl)) (by decide) (by decide)) (g := (mkF m 28 #[.val (.int n)] [(.int n), (.ref b2), (.ref b2)])) rfl (by rw [hml]; rfl) (Steps.refl _) (a := b2) (argsL := [(.int n)]) (rest := [(.ref b2)]) (lenOf own_pd_1 rfl) rfl (by show 2 * 0 + _ ≤ _; exact Nat.le_of_eq rfl) (hb hby own_d11_28) (fun _ _ => ⟨rfl, e2, (by decide : 1 + 0 ≤ _), (by decide : 1 + 0 ≤ _)⟩)
    dsimp only [Pt.U, Pt.locs, Pt.cells, Pt.slots] at X7 l7 y7 z7 st7 hQ7
    subst l7 y7 z7
    obtain ⟨rfl, N7q, K7, p7_0⟩ := hQ7
    have N8 := Fr.app N0 N7q
    have zzK7 : h2.size ≤ T7.heap.size := K7.1
    have oo9 : Old Z n0 T7.heap := oo4.keep K7 (allS (by omega : n0 ≤ b2) all0)
    have kt10 : Keep h0 T7.heap [] := kt5.trans K7 (allS (Or.inr (by omega : h0.size ≤ b2)) all0)
    refine own_by (T' := T7) (g' := (mkF m 31 #[.val (.int n)] [(.ref b2)])) (fun _ kt_ => st7.trans kt_) ?_
    have f11 : Exa Z T7.heap b2 "java/lang/Integer" := (A2.keep K7)
    obtain ⟨fs12, hr12, hrun12, hended12, hW12, hsame12⟩ := X7.leave (v := some (.ref b2)) (fun h => by rw [Bd.returns] at h; cases h)
    refine ⟨_, _, retOut X7 hx (t := (.object "java/lang/Integer")) Bd.returns rfl (Or.inr (Or.inr (Or.inr (Or.inr ⟨rfl, rfl, rfl⟩)))) (hb hby own_d11_31) hr12, hrun12, hended12, _, _, rfl, ?_, ⟨_, rfl⟩, hW12, hsame12.mono (by decide) (by decide)⟩
    show Q_rmValI Z wC cC zC wO n h0 n0 _ T7.heap _
    exact ⟨b2, rfl, N8, kt10, f11, p7_0⟩
  · refine own_by (T' := s₁) (g' := (mkF m 6 #[.val (.int n)] [])) (fun _ kt_ => XS.icmpNo X0.here hx rfl (hb hby own_d11_3) rfl (XT.ii_lt_f hc1) kt_) ?_
    refine own_by (T' := s₁) (g' := (mkF m 7 #[.val (.int n)] [(.int n)])) (fun _ kt_ => XS.iloadN X0.here hx rfl (hb hby own_d11_6) rfl kt_) ?_
    have f13 := GS.1.ext O0.2
    obtain ⟨T14, X14, e14, st14⟩ := getS2 X0 hx hZ hown (host := "") (Or.inl (hw _ (List.mem_of_getElem? (i := 67) rfl))) Via.refl e0 f13 (g := (mkF m 7 #[.val (.int n)] [(.int n)])) rfl (hb hby own_d11_7)
    refine own_by (T' := T14) (g' := (mkF m 10 #[.val (.int n)] [(.int (127 : Int32)), (.int n)])) st14 ?_
    by_cases hc15 : (127 : Int32) < n
    · refine own_by (T' := T14) (g' := (mkF m 23 #[.val (.int n)] [])) (fun _ kt_ => XS.icmpYes X14.here hx rfl (pc0 := 10) (pc' := 23) rfl (hb hby own_d11_10) rfl (XT.ii_gt_t hc15) (by decide) (by decide) kt_) ?_
      obtain ⟨T16, h16, X16, e16, E16, A16, D16, -, st16⟩ := newO X14 hx hZ hown (hw _ (List.mem_of_getElem? (i := 161) rfl)) (hw _ (List.mem_of_getElem? (i := 162) rfl)) (hw _ (List.mem_of_getElem? (i := 65) rfl)) e14 (g := (mkF m 23 #[.val (.int n)] [])) rfl (hb hby own_d11_23) (by decide) (by decide)
      obtain ⟨b16, g16⟩ : ∃ z, z = h0.size := ⟨_, rfl⟩
      rw [← g16] at A16 D16 st16
      have K17 : Keep h0 h16 [] := own_kext E16
      have zzK17 : h0.size ≤ h16.size := K17.1
      have oo18 : Old Z n0 h16 := O0.keep K17 all0
      have kt19 : Keep h0 h16 [] := KT0.trans K17 all0
      have lab16 : b16 < h16.size := A16.lt
      have f20 : Fld Z h16 b16 "java/lang/Integer" "value" "I" (.int (0 : Int32)) := D16 (Or.inr (hw _ (List.mem_of_getElem? (i := 175) rfl))) (ty := .int) (by decide)
      refine own_by (T' := T16) (g' := (mkF m 26 #[.val (.int n)] [(.ref b16)])) st16 ?_
      refine own_by (T' := T16) (g' := (mkF m 27 #[.val (.int n)] [(.ref b16), (.ref b16)])) (fun _ kt_ => XS.dup X16.here hx rfl (hb hby own_d11_26) rfl rfl kt_) ?_
      refine own_by (T' := T16) (g' := (mkF m 28 #[.val (.int n)] [(.int n), (.ref b16), (.ref b16)])) (fun _ kt_ => XS.iloadN X16.here hx rfl (hb hby own_d11_27) rfl kt_) ?_
      obtain ⟨_, _, ⟨T21, L21, k21, n21⟩, -, X21, ⟨Lc21, hQ21, l21, y21, z21⟩, st21⟩ := X16.specialBack hx (y := (⟨"java/lang/Integer", "<init>", "(I)V"⟩ : MethodName)) rfl hown (mvT hZ (hw _ (List.mem_of_getElem? (i := 163) rfl))) (mvT hZ (hw _ (List.mem_of_getElem? (i := 164) rfl))) (mvT hZ (hw _ (List.mem_of_getElem? (i := 166) rfl))) (by decide) (backOf (W := 1) (rmIntI l Z a0 hw [] wC cC zC wO GS b16 n h16 n0 (by omega) oo18 A16 (by omega) f20) hZ (hw _ (List.mem_of_getElem? (i := 166) rfl)) (hw _ (List.mem_of_getElem? (i := 65) rfl)) (by decide) (by decide)) (g := (mkF m 28 #[.val (.int n)] [(.int n), (.ref b16), (.ref b16)])) rfl (by rw [hml]; rfl) (Steps.refl _) (a := b16) (argsL := [(.int n)]) (rest := [(.ref b16)]) (lenOf own_pd_1 rfl) rfl (by show 2 * 0 + _ ≤ _; exact Nat.le_of_eq rfl) (hb hby own_d11_28) (fun _ _ => ⟨rfl, e16, (by decide : 1 + 0 ≤ _), (by decide : 1 + 0 ≤ _)⟩)
      dsimp only [Pt.U, Pt.locs, Pt.cells, Pt.slots] at X21 l21 y21 z21 st21 hQ21
      subst l21 y21 z21
      obtain ⟨rfl, N21q, K21, p21_0⟩ := hQ21
      have N22 := Fr.app N0 N21q
      have zzK21 : h16.size ≤ T21.heap.size := K21.1
      have oo23 : Old Z n0 T21.heap := oo18.keep K21 (allS (by omega : n0 ≤ b16) all0)
      have kt24 : Keep h0 T21.heap [] := kt19.trans K21 (allS (Or.inr (by omega : h0.size ≤ b16)) all0)
      refine own_by (T' := T21) (g' := (mkF m 31 #[.val (.int n)] [(.ref b16)])) (fun _ kt_ => st21.trans kt_) ?_
      have f25 : Exa Z T21.heap b16 "java/lang/Integer" := (A16.keep K21)
      obtain ⟨fs26, hr26, hrun26, hended26, hW26, hsame26⟩ := X21.leave (v := some (.ref b16)) (fun h => by rw [Bd.returns] at h; cases h)
      refine ⟨_, _, retOut X21 hx (t := (.object "java/lang/Integer")) Bd.returns rfl (Or.inr (Or.inr (Or.inr (Or.inr ⟨rfl, rfl, rfl⟩)))) (hb hby own_d11_31) hr26, hrun26, hended26, _, _, rfl, ?_, ⟨_, rfl⟩, hW26, hsame26.mono (by decide) (by decide)⟩
      show Q_rmValI Z wC cC zC wO n h0 n0 _ T21.heap _
      exact ⟨b16, rfl, N22, kt24, f25, p21_0⟩
    · refine own_by (T' := T14) (g' := (mkF m 13 #[.val (.int n)] [])) (fun _ kt_ => XS.icmpNo X14.here hx rfl (hb hby own_d11_10) rfl (XT.ii_gt_f hc15) kt_) ?_
      have f27 := GS.2.1.ext O0.2
      obtain ⟨T28, X28, e28, st28⟩ := getS2 X14 hx hZ hown (host := "") (Or.inl (hw _ (List.mem_of_getElem? (i := 69) rfl))) Via.refl e14 f27 (g := (mkF m 13 #[.val (.int n)] [])) rfl (hb hby own_d11_13)
      refine own_by (T' := T28) (g' := (mkF m 16 #[.val (.int n)] [(.ref wC)])) st28 ?_
      refine own_by (T' := T28) (g' := (mkF m 17 #[.val (.int n)] [(.int n), (.ref wC)])) (fun _ kt_ => XS.iloadN X28.here hx rfl (hb hby own_d11_16) rfl kt_) ?_
      refine own_by (T' := T28) (g' := (mkF m 20 #[.val (.int n)] [(.int (128 : Int32)), (.int n), (.ref wC)])) (fun _ kt_ => XS.sipush X28.here hx rfl (hb hby own_d11_17) kt_) ?_
      refine own_by (T' := T28) (g' := (mkF m 21 #[.val (.int n)] [(.int (n + (128 : Int32))), (.ref wC)])) (fun _ kt_ => XS.iadd X28.here hx rfl (hb hby own_d11_20) rfl kt_) ?_
      obtain ⟨Ar30, S30, M30⟩ := GS.2.2.1.ext O0.2
      have hin30 : ¬ ((n + (128 : Int32)) < 0 ∨ cC.slots.size ≤ ((n + (128 : Int32))).toNatClampNeg) := inb_of S30 (own_bxin n hc1 hc15)
      obtain ⟨bx30, hat30, Ex30, Fv30⟩ := GS.2.2.1.2.2.2 (n + (128 : Int32)) hin30
      have Fw30 : Fld Z Z.heap bx30 "java/lang/Integer" "value" "I" (.int ((n + (128 : Int32)) - (128 : Int32))) := Fv30
      refine own_by (T' := T28) (g' := (mkF m 22 #[.val (.int n)] [(.ref bx30)])) (fun _ kt_ => X28.aaload hx (j := (n + (128 : Int32))) (v := (.ref bx30)) (by rw [e28]; exact Ar30.1) (State.isArrayOf_alike hZ.alike Ar30.2.1) rfl Ar30.2.2 hin30 hat30 (g := (mkF m 21 #[.val (.int n)] [(.int (n + (128 : Int32))), (.ref wC)])) rfl rfl (hb hby own_d11_21) _ kt_) ?_
      have f31 := Ex30.ext O0.2
      have f32 := Fw30.ext O0.2
      have hv33 : ((.int ((n + (128 : Int32)) - (128 : Int32))) : Value) = (.int n) := congrArg Value.int (Int32.add_sub_cancel _ _)
      obtain ⟨fs34, hr34, hrun34, hended34, hW34, hsame34⟩ := X28.leave (v := some (.ref bx30)) (fun h => by rw [Bd.returns] at h; cases h)
      refine ⟨_, _, retOut X28 hx (t := (.object "java/lang/Integer")) Bd.returns rfl (Or.inr (Or.inr (Or.inr (Or.inr ⟨rfl, rfl, rfl⟩)))) (hb hby own_d11_22) hr34, hrun34, hended34, _, _, rfl, ?_, ⟨_, rfl⟩, hW34, hsame34.mono (by decide) (by decide)⟩
      show Q_rmValI Z wC cC zC wO n h0 n0 _ T28.heap _
      rw [e28]
      exact ⟨bx30, rfl, N0, KT0, f31, (hv33 ▸ f32)⟩
theorem own_d6_0 : decode jdk_52_method_21_code 0 = .ok (.iconst 0, 1) := by decide +kernel
theorem own_d6_1 : decode jdk_52_method_21_code 1 = .ok (.istore 5, 2) := by decide +kernel
theorem own_d6_3 : decode jdk_52_method_21_code 3 = .ok (.iload 5, 2) := by decide +kernel
theorem own_d6_5 : decode jdk_52_method_21_code 5 = .ok (.iload 4, 2) := by decide +kernel
theorem own_d6_7 : decode jdk_52_method_21_code 7 = .ok (.if_icmp .ge 37, 3) := by decide +kernel
theorem own_d6_10 : decode jdk_52_method_21_code 10 = .ok (.aload_n 0, 1) := by decide +kernel
theorem own_d6_11 : decode jdk_52_method_21_code 11 = .ok (.iload_n 1, 1) := by decide +kernel
theorem own_d6_12 : decode jdk_52_method_21_code 12 = .ok (.caload, 1) := by decide +kernel
theorem own_d6_13 : decode jdk_52_method_21_code 13 = .ok (.istore 6, 2) := by decide +kernel
theorem own_d6_15 : decode jdk_52_method_21_code 15 = .ok (.iload 6, 2) := by decide +kernel
theorem own_d6_17 : decode jdk_52_method_21_code 17 = .ok (.sipush 255, 3) := by decide +kernel
theorem own_d6_20 : decode jdk_52_method_21_code 20 = .ok (.if_icmp .le 6, 3) := by decide +kernel
theorem own_d6_26 : decode jdk_52_method_21_code 26 = .ok (.aload_n 2, 1) := by decide +kernel
theorem own_d6_27 : decode jdk_52_method_21_code 27 = .ok (.iload_n 3, 1) := by decide +kernel
theorem own_d6_28 : decode jdk_52_method_21_code 28 = .ok (.iload 6, 2) := by decide +kernel
theorem own_d6_30 : decode jdk_52_method_21_code 30 = .ok (.i2b, 1) := by decide +kernel
theorem own_d6_31 : decode jdk_52_method_21_code 31 = .ok (.bastore, 1) := by decide +kernel
theorem own_d6_32 : decode jdk_52_method_21_code 32 = .ok (.iinc 1 1, 3) := by decide +kernel
theorem own_d6_35 : decode jdk_52_method_21_code 35 = .ok (.iinc 3 1, 3) := by decide +kernel
theorem own_d6_38 : decode jdk_52_method_21_code 38 = .ok (.iinc 5 1, 3) := by decide +kernel
theorem own_d6_41 : decode jdk_52_method_21_code 41 = .ok (.goto (-38), 3) := by decide +kernel
theorem own_d6_44 : decode jdk_52_method_21_code 44 = .ok (.iload 4, 2) := by decide +kernel
theorem own_d6_46 : decode jdk_52_method_21_code 46 = .ok (.ireturn, 1) := by decide +kernel
theorem own_pn_java_lang_StringUTF16 : plainName "java/lang/StringUTF16" = true := by first | (simp [plainName, overriddenIn]; done) | decide +kernel
theorem own_ef_rmC5 (m : MethodId) (x0 : Addr) (x1 : Int32) (x2 : Addr) (x3 : Int32) (x4 : Int32) : entryFrame m #[(.ref x0), (.int x1), (.ref x2), (.int x3), (.int x4)] 7 = mkF m 0 #[.val (.ref x0), .val (.int x1), .val (.ref x2), .val (.int x3), .val (.int x4), .unset, .unset] [] := by first | (simp [entryFrame, mkF, argsToLocals, Value.category]; done) | rfl
def Q_rmC5 (Z : State) (wC : Addr) (cC : Cell) (zC : Int32) (wO : Addr) (b : Addr) (d : Addr) (kC : ClassId) (kB : ClassId) (c0 : Int32) (c1 : Int32) (h0 : Heap) (n0 : Nat) (vv_ : Option Value) (hh_ : Heap) (LL_ : List Loc) : Prop := vv_ = some (.int (2 : Int32)) ∧ Fr n0 LL_ ∧ Keep h0 hh_ [d] ∧ Arv Z hh_ d kB .byte (2 : Int32) [(.int c0.toInt8.toInt32), (.int c1.toInt8.toInt32)] (.int (0 : Int32))
set_option maxRecDepth 65536 in
set_option maxHeartbeats 40000000 in
theorem rmC5 (l : Launch) (Z : State) (a0 : Array Value) (hw : ∀ d ∈ tables_1, d.before a0 Z = true) (ws : List Jvm.Cond) (wC : Addr) (cC : Cell) (zC : Int32) (wO : Addr) (GS : Glob Z wC cC zC wO) (b : Addr) (d : Addr) (kC : ClassId) (kB : ClassId) (c0 : Int32) (c1 : Int32) (h0 : Heap) (n0 : Nat) (Z0 : n0 ≤ h0.size) (O0 : Old Z n0 h0) (Vb : Arv Z h0 b kC .char (2 : Int32) [(.int c0), (.int c1)] (.int (0 : Int32))) (Vd : Arv Z h0 d kB .byte (2 : Int32) [(.int (0 : Int32)), (.int (0 : Int32))] (.int (0 : Int32))) (gd : n0 ≤ d) (hbd : b ≠ d) (hp0 : ¬ (255 : Int32) < c0) (hp1 : ¬ (255 : Int32) < c1) :
    MetFree l (⟨"java/lang/StringUTF16", "compress", "([CI[BII)I"⟩ : MethodName) (head1 (Jvm.Cond.code (⟨"java/lang/StringUTF16", "compress", "([CI[BII)I"⟩ : MethodName) jdk_52_method_21_code 7 (some .int) :: ws) ({ frames := 0, cells := 0, slots := 0, locals := 0 } : Room)) (fun aa_ UU_ => aa_ = #[(.ref b), (.int (0 : Int32)), (.ref d), (.int (0 : Int32)), (.int (2 : Int32))] ∧ Z.Warmed39 UU_.vm ∧ UU_.heap = h0) (fun _ _ _ _ _ => True) (fun _ UU_ oo_ UV_ => ∃ vv_ LL_, oo_ = .returned vv_ ∧ Q_rmC5 Z wC cC zC wO b d kC kB c0 c1 h0 n0 vv_ UV_.heap LL_ ∧ FrameEnd UU_ oo_ UV_ LL_ ({ frames := 0, cells := 0, slots := 0, locals := 0 } : Room).cells ({ frames := 0, cells := 0, slots := 0, locals := 0 } : Room).slots) := by
  refine MetFree.of_bodySF (plainFor_of_name own_pn_java_lang_StringUTF16) hisR ?_
  intro p e s m args below meth c s₁ Bd hml0 hP hK
  obtain ⟨rfl, hZ, hh⟩ := hP
  have hx := Bd.exec
  have hby := Bd.bytes
  have hml : c.maxLocals = 7 := hml0
  have hown : s.vm.findClass "java/lang/StringUTF16" = some m.cls := findClass_of_methodNamed Bd.named
  have hnm := (name_of_methodNamed Bd.named Bd.method).1
  have X0 : Stand p l e ({ frames := 0, cells := 0, slots := 0, locals := 0 } : Room) s m #[(.ref b), (.int (0 : Int32)), (.ref d), (.int (0 : Int32)), (.int (2 : Int32))] below meth c s₁ [] 0 0 := Stand.of_body Bd
  have e0 : s₁.heap = h0 := by rw [← hh, Bd.state]; rfl
  have N0 := Fr.nil n0
  have hn0 : Z.heap.size = n0 := O0.1
  have KT0 : Keep h0 h0 [d] := Keep.refl _ _
  refine own_enter (Φ := fun oo_ UV_ => ∃ vv_ LL_, oo_ = .returned vv_ ∧ Q_rmC5 Z wC cC zC wO b d kC kB c0 c1 h0 n0 vv_ UV_.heap LL_ ∧ FrameEnd s oo_ UV_ LL_ ({ frames := 0, cells := 0, slots := 0, locals := 0 } : Room).cells ({ frames := 0, cells := 0, slots := 0, locals := 0 } : Room).slots) (own_ef_rmC5 m b (0 : Int32) d (0 : Int32) (2 : Int32)) ?_
  have ne1 : b ≠ d := hbd
  refine own_by (T' := s₁) (g' := (mkF m 1 #[.val (.ref b), .val (.int (0 : Int32)), .val (.ref d), .val (.int (0 : Int32)), .val (.int (2 : Int32)), .unset, .unset] [(.int (0 : Int32))])) (fun _ kt_ => XS.iconst X0.here hx rfl (hb hby own_d6_0) kt_) ?_
  refine own_by (T' := s₁) (g' := (mkF m 3 #[.val (.ref b), .val (.int (0 : Int32)), .val (.ref d), .val (.int (0 : Int32)), .val (.int (2 : Int32)), .val (.int (0 : Int32)), .unset] [])) (fun _ kt_ => XS.istore X0.here hx rfl (hb hby own_d6_1) rfl (l' := #[.val (.ref b), .val (.int (0 : Int32)), .val (.ref d), .val (.int (0 : Int32)), .val (.int (2 : Int32)), .val (.int (0 : Int32)), .unset]) rfl kt_) ?_
  refine own_by (T' := s₁) (g' := (mkF m 5 #[.val (.ref b), .val (.int (0 : Int32)), .val (.ref d), .val (.int (0 : Int32)), .val (.int (2 : Int32)), .val (.int (0 : Int32)), .unset] [(.int (0 : Int32))])) (fun _ kt_ => XS.iload X0.here hx rfl (hb hby own_d6_3) rfl kt_) ?_
  refine own_by (T' := s₁) (g' := (mkF m 7 #[.val (.ref b), .val (.int (0 : Int32)), .val (.ref d), .val (.int (0 : Int32)), .val (.int (2 : Int32)), .val (.int (0 : Int32)), .unset] [(.int (2 : Int32)), (.int (0 : Int32))])) (fun _ kt_ => XS.iload X0.here hx rfl (hb hby own_d6_5) rfl kt_) ?_
  refine own_by (T' := s₁) (g' := (mkF m 10 #[.val (.ref b), .val (.int (0 : Int32)), .val (.ref d), .val (.int (0 : Int32)), .val (.int (2 : Int32)), .val (.int (0 : Int32)), .unset] [])) (fun _ kt_ => XS.icmpNo X0.here hx rfl (hb hby own_d6_7) rfl (XT.ii_ge_f (by decide)) kt_) ?_
  refine own_by (T' := s₁) (g' := (mkF m 11 #[.val (.ref b), .val (.int (0 : Int32)), .val (.ref d), .val (.int (0 : Int32)), .val (.int (2 : Int32)), .val (.int (0 : Int32)), .unset] [(.ref b)])) (fun _ kt_ => XS.aloadN X0.here hx rfl (hb hby own_d6_10) rfl rfl kt_) ?_
  refine own_by (T' := s₁) (g' := (mkF m 12 #[.val (.ref b), .val (.int (0 : Int32)), .val (.ref d), .val (.int (0 : Int32)), .val (.int (2 : Int32)), .val (.int (0 : Int32)), .unset] [(.int (0 : Int32)), (.ref b)])) (fun _ kt_ => XS.iloadN X0.here hx rfl (hb hby own_d6_11) rfl kt_) ?_
  obtain ⟨cl2, Ar2, q2, S2, M2, H2, G2⟩ := id Vb
  have hin2 : ¬ ((0 : Int32) < 0 ∨ cl2.slots.size ≤ ((0 : Int32)).toNatClampNeg) := inb_of S2 ⟨by decide, by decide⟩
  have hat2 : cl2.slots[((0 : Int32)).toNatClampNeg]? = some (.int c0) := H2.at hin2 rfl
  refine own_by (T' := s₁) (g' := (mkF m 13 #[.val (.ref b), .val (.int (0 : Int32)), .val (.ref d), .val (.int (0 : Int32)), .val (.int (2 : Int32)), .val (.int (0 : Int32)), .unset] [(.int c0)])) (fun _ kt_ => X0.caload hx (j := (0 : Int32)) (v := (.int c0)) (by rw [e0]; exact Ar2.1) (State.isArrayOf_alike hZ.alike Ar2.2.1) Ar2.2.2 hin2 hat2 (g := (mkF m 12 #[.val (.ref b), .val (.int (0 : Int32)), .val (.ref d), .val (.int (0 : Int32)), .val (.int (2 : Int32)), .val (.int (0 : Int32)), .unset] [(.int (0 : Int32)), (.ref b)])) rfl rfl (hb hby own_d6_12) _ kt_) ?_
  refine own_by (T' := s₁) (g' := (mkF m 15 #[.val (.ref b), .val (.int (0 : Int32)), .val (.ref d), .val (.int (0 : Int32)), .val (.int (2 : Int32)), .val (.int (0 : Int32)), .val (.int c0)] [])) (fun _ kt_ => XS.istore X0.here hx rfl (hb hby own_d6_13) rfl (l' := #[.val (.ref b), .val (.int (0 : Int32)), .val (.ref d), .val (.int (0 : Int32)), .val (.int (2 : Int32)), .val (.int (0 : Int32)), .val (.int c0)]) rfl kt_) ?_
  refine own_by (T' := s₁) (g' := (mkF m 17 #[.val (.ref b), .val (.int (0 : Int32)), .val (.ref d), .val (.int (0 : Int32)), .val (.int (2 : Int32)), .val (.int (0 : Int32)), .val (.int c0)] [(.int c0)])) (fun _ kt_ => XS.iload X0.here hx rfl (hb hby own_d6_15) rfl kt_) ?_
  refine own_by (T' := s₁) (g' := (mkF m 20 #[.val (.ref b), .val (.int (0 : Int32)), .val (.ref d), .val (.int (0 : Int32)), .val (.int (2 : Int32)), .val (.int (0 : Int32)), .val (.int c0)] [(.int (255 : Int32)), (.int c0)])) (fun _ kt_ => XS.sipush X0.here hx rfl (hb hby own_d6_17) kt_) ?_
  refine own_by (T' := s₁) (g' := (mkF m 26 #[.val (.ref b), .val (.int (0 : Int32)), .val (.ref d), .val (.int (0 : Int32)), .val (.int (2 : Int32)), .val (.int (0 : Int32)), .val (.int c0)] [])) (fun _ kt_ => XS.icmpYes X0.here hx rfl (pc0 := 20) (pc' := 26) rfl (hb hby own_d6_20) rfl (XT.ii_le_t hp0) (by decide) (by decide) kt_) ?_
  refine own_by (T' := s₁) (g' := (mkF m 27 #[.val (.ref b), .val (.int (0 : Int32)), .val (.ref d), .val (.int (0 : Int32)), .val (.int (2 : Int32)), .val (.int (0 : Int32)), .val (.int c0)] [(.ref d)])) (fun _ kt_ => XS.aloadN X0.here hx rfl (hb hby own_d6_26) rfl rfl kt_) ?_
  refine own_by (T' := s₁) (g' := (mkF m 28 #[.val (.ref b), .val (.int (0 : Int32)), .val (.ref d), .val (.int (0 : Int32)), .val (.int (2 : Int32)), .val (.int (0 : Int32)), .val (.int c0)] [(.int (0 : Int32)), (.ref d)])) (fun _ kt_ => XS.iloadN X0.here hx rfl (hb hby own_d6_27) rfl kt_) ?_
  refine own_by (T' := s₁) (g' := (mkF m 30 #[.val (.ref b), .val (.int (0 : Int32)), .val (.ref d), .val (.int (0 : Int32)), .val (.int (2 : Int32)), .val (.int (0 : Int32)), .val (.int c0)] [(.int c0), (.int (0 : Int32)), (.ref d)])) (fun _ kt_ => XS.iload X0.here hx rfl (hb hby own_d6_28) rfl kt_) ?_
  refine own_by (T' := s₁) (g' := (mkF m 31 #[.val (.ref b), .val (.int (0 : Int32)), .val (.ref d), .val (.int (0 : Int32)), .val (.int (2 : Int32)), .val (.int (0 : Int32)), .val (.int c0)] [(.int c0.toInt8.toInt32), (.int (0 : Int32)), (.ref d)])) (fun _ kt_ => XS.i2b X0.here hx rfl (hb hby own_d6_30) rfl kt_) ?_
  obtain ⟨cl3, Ar3, q3, S3, M3, H3, G3⟩ := id Vd
  have hin3 : ¬ ((0 : Int32) < 0 ∨ cl3.slots.size ≤ ((0 : Int32)).toNatClampNeg) := inb_of S3 ⟨by decide, by decide⟩
  obtain ⟨T3, h3, X3, e3, W3, st3⟩ := stB X0 hx hZ e0 Ar3 (j := (0 : Int32)) hin3 (g := (mkF m 31 #[.val (.ref b), .val (.int (0 : Int32)), .val (.ref d), .val (.int (0 : Int32)), .val (.int (2 : Int32)), .val (.int (0 : Int32)), .val (.int c0)] [(.int c0.toInt8.toInt32), (.int (0 : Int32)), (.ref d)])) rfl rfl (hb hby own_d6_31)
  rw [show nar .byte c0.toInt8.toInt32 = c0.toInt8.toInt32 from own_narB _] at W3
  have K4 : Keep h0 h3 [d] := Keep.of_wr W3
  have zzK4 : h0.size ≤ h3.size := K4.1
  have oo5 : Old Z n0 h3 := O0.keep K4 (allS (by omega : n0 ≤ d) all0)
  have kt6 : Keep h0 h3 [d] := KT0.trans K4 (allS (Or.inl (List.mem_of_getElem? (i := 0) rfl)) all0)
  have f7 : Arv Z h3 d kB .byte (2 : Int32) [(.int c0.toInt8.toInt32), (.int (0 : Int32))] (.int (0 : Int32)) := Arv.set Ar3 q3 S3 M3 H3 G3 (fits_nar_byte _) W3 0 rfl (Nat.le_of_ble_eq_true rfl)
  have N8 := Fr.snoc X3 N0 (by omega : n0 ≤ d)
  refine own_by (T' := T3) (g' := (mkF m 32 #[.val (.ref b), .val (.int (0 : Int32)), .val (.ref d), .val (.int (0 : Int32)), .val (.int (2 : Int32)), .val (.int (0 : Int32)), .val (.int c0)] [])) st3 ?_
  refine own_by (T' := T3) (g' := (mkF m 35 #[.val (.ref b), .val (.int ((0 : Int32) + (1 : Int32))), .val (.ref d), .val (.int (0 : Int32)), .val (.int (2 : Int32)), .val (.int (0 : Int32)), .val (.int c0)] [])) (fun _ kt_ => XS.iinc X3.here hx rfl (hb hby own_d6_32) rfl (l' := #[.val (.ref b), .val (.int ((0 : Int32) + (1 : Int32))), .val (.ref d), .val (.int (0 : Int32)), .val (.int (2 : Int32)), .val (.int (0 : Int32)), .val (.int c0)]) rfl kt_) ?_
  rw [show ((0 : Int32) + (1 : Int32)) = (1 : Int32) from by decide]
  refine own_by (T' := T3) (g' := (mkF m 38 #[.val (.ref b), .val (.int (1 : Int32)), .val (.ref d), .val (.int ((0 : Int32) + (1 : Int32))), .val (.int (2 : Int32)), .val (.int (0 : Int32)), .val (.int c0)] [])) (fun _ kt_ => XS.iinc X3.here hx rfl (hb hby own_d6_35) rfl (l' := #[.val (.ref b), .val (.int (1 : Int32)), .val (.ref d), .val (.int ((0 : Int32) + (1 : Int32))), .val (.int (2 : Int32)), .val (.int (0 : Int32)), .val (.int c0)]) rfl kt_) ?_
  rw [show ((0 : Int32) + (1 : Int32)) = (1 : Int32) from by decide]
  refine own_by (T' := T3) (g' := (mkF m 41 #[.val (.ref b), .val (.int (1 : Int32)), .val (.ref d), .val (.int (1 : Int32)), .val (.int (2 : Int32)), .val (.int ((0 : Int32) + (1 : Int32))), .val (.int c0)] [])) (fun _ kt_ => XS.iinc X3.here hx rfl (hb hby own_d6_38) rfl (l' := #[.val (.ref b), .val (.int (1 : Int32)), .val (.ref d), .val (.int (1 : Int32)), .val (.int (2 : Int32)), .val (.int ((0 : Int32) + (1 : Int32))), .val (.int c0)]) rfl kt_) ?_
  rw [show ((0 : Int32) + (1 : Int32)) = (1 : Int32) from by decide]
  refine own_by (T' := T3) (g' := (mkF m 3 #[.val (.ref b), .val (.int (1 : Int32)), .val (.ref d), .val (.int (1 : Int32)), .val (.int (2 : Int32)), .val (.int (1 : Int32)), .val (.int c0)] [])) (fun _ kt_ => XS.goto X3.here hx rfl (pc0 := 41) (pc' := 3) rfl (hb hby own_d6_41) (by decide) (by decide) kt_) ?_
  refine own_by (T' := T3) (g' := (mkF m 5 #[.val (.ref b), .val (.int (1 : Int32)), .val (.ref d), .val (.int (1 : Int32)), .val (.int (2 : Int32)), .val (.int (1 : Int32)), .val (.int c0)] [(.int (1 : Int32))])) (fun _ kt_ => XS.iload X3.here hx rfl (hb hby own_d6_3) rfl kt_) ?_
  refine own_by (T' := T3) (g' := (mkF m 7 #[.val (.ref b), .val (.int (1 : Int32)), .val (.ref d), .val (.int (1 : Int32)), .val (.int (2 : Int32)), .val (.int (1 : Int32)), .val (.int c0)] [(.int (2 : Int32)), (.int (1 : Int32))])) (fun _ kt_ => XS.iload X3.here hx rfl (hb hby own_d6_5) rfl kt_) ?_
  refine own_by (T' := T3) (g' := (mkF m 10 #[.val (.ref b), .val (.int (1 : Int32)), .val (.ref d), .val (.int (1 : Int32)), .val (.int (2 : Int32)), .val (.int (1 : Int32)), .val (.int c0)] [])) (fun _ kt_ => XS.icmpNo X3.here hx rfl (hb hby own_d6_7) rfl (XT.ii_ge_f (by decide)) kt_) ?_
  refine own_by (T' := T3) (g' := (mkF m 11 #[.val (.ref b), .val (.int (1 : Int32)), .val (.ref d), .val (.int (1 : Int32)), .val (.int (2 : Int32)), .val (.int (1 : Int32)), .val (.int c0)] [(.ref b)])) (fun _ kt_ => XS.aloadN X3.here hx rfl (hb hby own_d6_10) rfl rfl kt_) ?_
  refine own_by (T' := T3) (g' := (mkF m 12 #[.val (.ref b), .val (.int (1 : Int32)), .val (.ref d), .val (.int (1 : Int32)), .val (.int (2 : Int32)), .val (.int (1 : Int32)), .val (.int c0)] [(.int (1 : Int32)), (.ref b)])) (fun _ kt_ => XS.iloadN X3.here hx rfl (hb hby own_d6_11) rfl kt_) ?_
  have f10 : Arv Z h3 b kC .char (2 : Int32) [(.int c0), (.int c1)] (.int (0 : Int32)) := (Vb.keep K4 (ninS ne1 nin0))
  obtain ⟨cl9, Ar9, q9, S9, M9, H9, G9⟩ := id f10
  have hin9 : ¬ ((1 : Int32) < 0 ∨ cl9.slots.size ≤ ((1 : Int32)).toNatClampNeg) := inb_of S9 ⟨by decide, by decide⟩
  have hat9 : cl9.slots[((1 : Int32)).toNatClampNeg]? = some (.int c1) := H9.at hin9 rfl
  refine own_by (T' := T3) (g' := (mkF m 13 #[.val (.ref b), .val (.int (1 : Int32)), .val (.ref d), .val (.int (1 : Int32)), .val (.int (2 : Int32)), .val (.int (1 : Int32)), .val (.int c0)] [(.int c1)])) (fun _ kt_ => X3.caload hx (j := (1 : Int32)) (v := (.int c1)) (by rw [e3]; exact Ar9.1) (State.isArrayOf_alike hZ.alike Ar9.2.1) Ar9.2.2 hin9 hat9 (g := (mkF m 12 #[.val (.ref b), .val (.int (1 : Int32)), .val (.ref d), .val (.int (1 : Int32)), .val (.int (2 : Int32)), .val (.int (1 : Int32)), .val (.int c0)] [(.int (1 : Int32)), (.ref b)])) rfl rfl (hb hby own_d6_12) _ kt_) ?_
  refine own_by (T' := T3) (g' := (mkF m 15 #[.val (.ref b), .val (.int (1 : Int32)), .val (.ref d), .val (.int (1 : Int32)), .val (.int (2 : Int32)), .val (.int (1 : Int32)), .val (.int c1)] [])) (fun _ kt_ => XS.istore X3.here hx rfl (hb hby own_d6_13) rfl (l' := #[.val (.ref b), .val (.int (1 : Int32)), .val (.ref d), .val (.int (1 : Int32)), .val (.int (2 : Int32)), .val (.int (1 : Int32)), .val (.int c1)]) rfl kt_) ?_
  refine own_by (T' := T3) (g' := (mkF m 17 #[.val (.ref b), .val (.int (1 : Int32)), .val (.ref d), .val (.int (1 : Int32)), .val (.int (2 : Int32)), .val (.int (1 : Int32)), .val (.int c1)] [(.int c1)])) (fun _ kt_ => XS.iload X3.here hx rfl (hb hby own_d6_15) rfl kt_) ?_
  refine own_by (T' := T3) (g' := (mkF m 20 #[.val (.ref b), .val (.int (1 : Int32)), .val (.ref d), .val (.int (1 : Int32)), .val (.int (2 : Int32)), .val (.int (1 : Int32)), .val (.int c1)] [(.int (255 : Int32)), (.int c1)])) (fun _ kt_ => XS.sipush X3.here hx rfl (hb hby own_d6_17) kt_) ?_
  refine own_by (T' := T3) (g' := (mkF m 26 #[.val (.ref b), .val (.int (1 : Int32)), .val (.ref d), .val (.int (1 : Int32)), .val (.int (2 : Int32)), .val (.int (1 : Int32)), .val (.int c1)] [])) (fun _ kt_ => XS.icmpYes X3.here hx rfl (pc0 := 20) (pc' := 26) rfl (hb hby own_d6_20) rfl (XT.ii_le_t hp1) (by decide) (by decide) kt_) ?_
  refine own_by (T' := T3) (g' := (mkF m 27 #[.val (.ref b), .val (.int (1 : Int32)), .val (.ref d), .val (.int (1 : Int32)), .val (.int (2 : Int32)), .val (.int (1 : Int32)), .val (.int c1)] [(.ref d)])) (fun _ kt_ => XS.aloadN X3.here hx rfl (hb hby own_d6_26) rfl rfl kt_) ?_
  refine own_by (T' := T3) (g' := (mkF m 28 #[.val (.ref b), .val (.int (1 : Int32)), .val (.ref d), .val (.int (1 : Int32)), .val (.int (2 : Int32)), .val (.int (1 : Int32)), .val (.int c1)] [(.int (1 : Int32)), (.ref d)])) (fun _ kt_ => XS.iloadN X3.here hx rfl (hb hby own_d6_27) rfl kt_) ?_
  refine own_by (T' := T3) (g' := (mkF m 30 #[.val (.ref b), .val (.int (1 : Int32)), .val (.ref d), .val (.int (1 : Int32)), .val (.int (2 : Int32)), .val (.int (1 : Int32)), .val (.int c1)] [(.int c1), (.int (1 : Int32)), (.ref d)])) (fun _ kt_ => XS.iload X3.here hx rfl (hb hby own_d6_28) rfl kt_) ?_
  refine own_by (T' := T3) (g' := (mkF m 31 #[.val (.ref b), .val (.int (1 : Int32)), .val (.ref d), .val (.int (1 : Int32)), .val (.int (2 : Int32)), .val (.int (1 : Int32)), .val (.int c1)] [(.int c1.toInt8.toInt32), (.int (1 : Int32)), (.ref d)])) (fun _ kt_ => XS.i2b X3.here hx rfl (hb hby own_d6_30) rfl kt_) ?_
  obtain ⟨cl11, Ar11, q11, S11, M11, H11, G11⟩ := id f7
  have hin11 : ¬ ((1 : Int32) < 0 ∨ cl11.slots.size ≤ ((1 : Int32)).toNatClampNeg) := inb_of S11 ⟨by decide, by decide⟩
  obtain ⟨T11, h11, X11, e11, W11, st11⟩ := stB X3 hx hZ e3 Ar11 (j := (1 : Int32)) hin11 (g := (mkF m 31 #[.val (.ref b), .val (.int (1 : Int32)), .val (.ref d), .val (.int (1 : Int32)), .val (.int (2 : Int32)), .val (.int (1 : Int32)), .val (.int c1)] [(.int c1.toInt8.toInt32), (.int (1 : Int32)), (.ref d)])) rfl rfl (hb hby own_d6_31)
  rw [show nar .byte c1.toInt8.toInt32 = c1.toInt8.toInt32 from own_narB _] at W11
  have K12 : Keep h3 h11 [d] := Keep.of_wr W11
  have zzK12 : h3.size ≤ h11.size := K12.1
  have oo13 : Old Z n0 h11 := oo5.keep K12 (allS (by omega : n0 ≤ d) all0)
  have kt14 : Keep h0 h11 [d] := kt6.trans K12 (allS (Or.inl (List.mem_of_getElem? (i := 0) rfl)) all0)
  have f15 : Arv Z h11 d kB .byte (2 : Int32) [(.int c0.toInt8.toInt32), (.int c1.toInt8.toInt32)] (.int (0 : Int32)) := Arv.set Ar11 q11 S11 M11 H11 G11 (fits_nar_byte _) W11 1 rfl (Nat.le_of_ble_eq_true rfl)
  have N16 := Fr.snoc X11 N8 (by omega : n0 ≤ d)
  refine own_by (T' := T11) (g' := (mkF m 32 #[.val (.ref b), .val (.int (1 : Int32)), .val (.ref d), .val (.int (1 : Int32)), .val (.int (2 : Int32)), .val (.int (1 : Int32)), .val (.int c1)] [])) st11 ?_
  refine own_by (T' := T11) (g' := (mkF m 35 #[.val (.ref b), .val (.int ((1 : Int32) + (1 : Int32))), .val (.ref d), .val (.int (1 : Int32)), .val (.int (2 : Int32)), .val (.int (1 : Int32)), .val (.int c1)] [])) (fun _ kt_ => XS.iinc X11.here hx rfl (hb hby own_d6_32) rfl (l' := #[.val (.ref b), .val (.int ((1 : Int32) + (1 : Int32))), .val (.ref d), .val (.int (1 : Int32)), .val (.int (2 : Int32)), .val (.int (1 : Int32)), .val (.int c1)]) rfl kt_) ?_
  rw [show ((1 : Int32) + (1 : Int32)) = (2 : Int32) from by decide]
  refine own_by (T' := T11) (g' := (mkF m 38 #[.val (.ref b), .val (.int (2 : Int32)), .val (.ref d), .val (.int ((1 : Int32) + (1 : Int32))), .val (.int (2 : Int32)), .val (.int (1 : Int32)), .val (.int c1)] [])) (fun _ kt_ => XS.iinc X11.here hx rfl (hb hby own_d6_35) rfl (l' := #[.val (.ref b), .val (.int (2 : Int32)), .val (.ref d), .val (.int ((1 : Int32) + (1 : Int32))), .val (.int (2 : Int32)), .val (.int (1 : Int32)), .val (.int c1)]) rfl kt_) ?_
  rw [show ((1 : Int32) + (1 : Int32)) = (2 : Int32) from by decide]
  refine own_by (T' := T11) (g' := (mkF m 41 #[.val (.ref b), .val (.int (2 : Int32)), .val (.ref d), .val (.int (2 : Int32)), .val (.int (2 : Int32)), .val (.int ((1 : Int32) + (1 : Int32))), .val (.int c1)] [])) (fun _ kt_ => XS.iinc X11.here hx rfl (hb hby own_d6_38) rfl (l' := #[.val (.ref b), .val (.int (2 : Int32)), .val (.ref d), .val (.int (2 : Int32)), .val (.int (2 : Int32)), .val (.int ((1 : Int32) + (1 : Int32))), .val (.int c1)]) rfl kt_) ?_
  rw [show ((1 : Int32) + (1 : Int32)) = (2 : Int32) from by decide]
  refine own_by (T' := T11) (g' := (mkF m 3 #[.val (.ref b), .val (.int (2 : Int32)), .val (.ref d), .val (.int (2 : Int32)), .val (.int (2 : Int32)), .val (.int (2 : Int32)), .val (.int c1)] [])) (fun _ kt_ => XS.goto X11.here hx rfl (pc0 := 41) (pc' := 3) rfl (hb hby own_d6_41) (by decide) (by decide) kt_) ?_
  refine own_by (T' := T11) (g' := (mkF m 5 #[.val (.ref b), .val (.int (2 : Int32)), .val (.ref d), .val (.int (2 : Int32)), .val (.int (2 : Int32)), .val (.int (2 : Int32)), .val (.int c1)] [(.int (2 : Int32))])) (fun _ kt_ => XS.iload X11.here hx rfl (hb hby own_d6_3) rfl kt_) ?_
  refine own_by (T' := T11) (g' := (mkF m 7 #[.val (.ref b), .val (.int (2 : Int32)), .val (.ref d), .val (.int (2 : Int32)), .val (.int (2 : Int32)), .val (.int (2 : Int32)), .val (.int c1)] [(.int (2 : Int32)), (.int (2 : Int32))])) (fun _ kt_ => XS.iload X11.here hx rfl (hb hby own_d6_5) rfl kt_) ?_
  refine own_by (T' := T11) (g' := (mkF m 44 #[.val (.ref b), .val (.int (2 : Int32)), .val (.ref d), .val (.int (2 : Int32)), .val (.int (2 : Int32)), .val (.int (2 : Int32)), .val (.int c1)] [])) (fun _ kt_ => XS.icmpYes X11.here hx rfl (pc0 := 7) (pc' := 44) rfl (hb hby own_d6_7) rfl (XT.ii_ge_t (by decide)) (by decide) (by decide) kt_) ?_
  refine own_by (T' := T11) (g' := (mkF m 46 #[.val (.ref b), .val (.int (2 : Int32)), .val (.ref d), .val (.int (2 : Int32)), .val (.int (2 : Int32)), .val (.int (2 : Int32)), .val (.int c1)] [(.int (2 : Int32))])) (fun _ kt_ => XS.iload X11.here hx rfl (hb hby own_d6_44) rfl kt_) ?_
  obtain ⟨fs17, hr17, hrun17, hended17, hW17, hsame17⟩ := X11.leave (v := some (.int (2 : Int32))) (fun h => by rw [Bd.returns] at h; cases h)
  refine ⟨_, _, retOut X11 hx (t := .int) Bd.returns rfl (Or.inl ⟨rfl, Or.inl rfl, _, rfl⟩) (hb hby own_d6_46) hr17, hrun17, hended17, _, _, rfl, ?_, ⟨_, rfl⟩, hW17, hsame17.mono (by decide) (by decide)⟩
  show Q_rmC5 Z wC cC zC wO b d kC kB c0 c1 h0 n0 _ T11.heap _
  rw [e11]
  exact ⟨rfl, N16, kt14, f15⟩
theorem own_pd_2 : parseMethodDescriptor "([CI[BII)I" = some ⟨[(.array .char), .int, (.array .byte), .int, .int], some .int⟩ := by decide +kernel
theorem own_d5_0 : decode jdk_52_method_16_code 0 = .ok (.iload_n 2, 1) := by decide +kernel
theorem own_d5_1 : decode jdk_52_method_16_code 1 = .ok (.newarray .byte, 2) := by decide +kernel
theorem own_d5_3 : decode jdk_52_method_16_code 3 = .ok (.astore_n 3, 1) := by decide +kernel
theorem own_d5_4 : decode jdk_52_method_16_code 4 = .ok (.aload_n 0, 1) := by decide +kernel
theorem own_d5_5 : decode jdk_52_method_16_code 5 = .ok (.iload_n 1, 1) := by decide +kernel
theorem own_d5_6 : decode jdk_52_method_16_code 6 = .ok (.aload_n 3, 1) := by decide +kernel
theorem own_d5_7 : decode jdk_52_method_16_code 7 = .ok (.iconst 0, 1) := by decide +kernel
theorem own_d5_8 : decode jdk_52_method_16_code 8 = .ok (.iload_n 2, 1) := by decide +kernel
theorem own_d5_9 : decode jdk_52_method_16_code 9 = .ok (.invokestatic 115, 3) := by decide +kernel
theorem own_d5_12 : decode jdk_52_method_16_code 12 = .ok (.istore 4, 2) := by decide +kernel
theorem own_d5_14 : decode jdk_52_method_16_code 14 = .ok (.iload 4, 2) := by decide +kernel
theorem own_d5_16 : decode jdk_52_method_16_code 16 = .ok (.iload_n 2, 1) := by decide +kernel
theorem own_d5_17 : decode jdk_52_method_16_code 17 = .ok (.if_icmp .eq 40, 3) := by decide +kernel
theorem own_d5_57 : decode jdk_52_method_16_code 57 = .ok (.aload_n 3, 1) := by decide +kernel
theorem own_d5_58 : decode jdk_52_method_16_code 58 = .ok (.areturn, 1) := by decide +kernel
theorem own_ef_rmC3 (m : MethodId) (x0 : Addr) (x1 : Int32) (x2 : Int32) : entryFrame m #[(.ref x0), (.int x1), (.int x2)] 6 = mkF m 0 #[.val (.ref x0), .val (.int x1), .val (.int x2), .unset, .unset, .unset] [] := by first | (simp [entryFrame, mkF, argsToLocals, Value.category]; done) | rfl
def Q_rmC3 (Z : State) (wC : Addr) (cC : Cell) (zC : Int32) (wO : Addr) (b : Addr) (kC : ClassId) (c0 : Int32) (c1 : Int32) (h0 : Heap) (n0 : Nat) (vv_ : Option Value) (hh_ : Heap) (LL_ : List Loc) : Prop := ∃ d : Addr, ∃ kB : ClassId, vv_ = some (.ref d) ∧ Fr n0 LL_ ∧ Keep h0 hh_ [] ∧ h0.size ≤ d ∧ Arv Z hh_ d kB .byte (2 : Int32) [(.int c0.toInt8.toInt32), (.int c1.toInt8.toInt32)] (.int (0 : Int32))
set_option maxRecDepth 65536 in
set_option maxHeartbeats 40000000 in
theorem rmC3 (l : Launch) (Z : State) (a0 : Array Value) (hw : ∀ d ∈ tables_1, d.before a0 Z = true) (ws : List Jvm.Cond) (wC : Addr) (cC : Cell) (zC : Int32) (wO : Addr) (GS : Glob Z wC cC zC wO) (b : Addr) (kC : ClassId) (c0 : Int32) (c1 : Int32) (h0 : Heap) (n0 : Nat) (Z0 : n0 ≤ h0.size) (O0 : Old Z n0 h0) (Vb : Arv Z h0 b kC .char (2 : Int32) [(.int c0), (.int c1)] (.int (0 : Int32))) (hp0 : ¬ (255 : Int32) < c0) (hp1 : ¬ (255 : Int32) < c1) :
    MetFree l (⟨"java/lang/StringUTF16", "compress", "([CII)[B"⟩ : MethodName) (head1 (Jvm.Cond.code (⟨"java/lang/StringUTF16", "compress", "([CII)[B"⟩ : MethodName) jdk_52_method_16_code 6 (some (.array .byte)) :: ws) ({ frames := 1, cells := 1, slots := 2, locals := 18 } : Room)) (fun aa_ UU_ => aa_ = #[(.ref b), (.int (0 : Int32)), (.int (2 : Int32))] ∧ Z.Warmed39 UU_.vm ∧ UU_.heap = h0) (fun _ _ _ _ _ => True) (fun _ UU_ oo_ UV_ => ∃ vv_ LL_, oo_ = .returned vv_ ∧ Q_rmC3 Z wC cC zC wO b kC c0 c1 h0 n0 vv_ UV_.heap LL_ ∧ FrameEnd UU_ oo_ UV_ LL_ ({ frames := 1, cells := 1, slots := 2, locals := 18 } : Room).cells ({ frames := 1, cells := 1, slots := 2, locals := 18 } : Room).slots) := by
  refine MetFree.of_bodySF (plainFor_of_name own_pn_java_lang_StringUTF16) hisR ?_
  intro p e s m args below meth c s₁ Bd hml0 hP hK
  obtain ⟨rfl, hZ, hh⟩ := hP
  have hx := Bd.exec
  have hby := Bd.bytes
  have hml : c.maxLocals = 6 := hml0
  have hown : s.vm.findClass "java/lang/StringUTF16" = some m.cls := findClass_of_methodNamed Bd.named
  have hnm := (name_of_methodNamed Bd.named Bd.method).1
  have X0 : Stand p l e ({ frames := 1, cells := 1, slots := 2, locals := 18 } : Room) s m #[(.ref b), (.int (0 : Int32)), (.int (2 : Int32))] below meth c s₁ [] 0 0 := Stand.of_body Bd
  have e0 : s₁.heap = h0 := by rw [← hh, Bd.state]; rfl
  have N0 := Fr.nil n0
  have hn0 : Z.heap.size = n0 := O0.1
  have KT0 : Keep h0 h0 [] := Keep.refl _ _
  refine own_enter (Φ := fun oo_ UV_ => ∃ vv_ LL_, oo_ = .returned vv_ ∧ Q_rmC3 Z wC cC zC wO b kC c0 c1 h0 n0 vv_ UV_.heap LL_ ∧ FrameEnd s oo_ UV_ LL_ ({ frames := 1, cells := 1, slots := 2, locals := 18 } : Room).cells ({ frames := 1, cells := 1, slots := 2, locals := 18 } : Room).slots) (own_ef_rmC3 m b (0 : Int32) (2 : Int32)) ?_
  refine own_by (T' := s₁) (g' := (mkF m 1 #[.val (.ref b), .val (.int (0 : Int32)), .val (.int (2 : Int32)), .unset, .unset, .unset] [(.int (2 : Int32))])) (fun _ kt_ => XS.iloadN X0.here hx rfl (hb hby own_d5_0) rfl kt_) ?_
  obtain ⟨T1, h1, k1, X1, e1, E1, A1, st1⟩ := newP X0 hx hZ (hw _ (List.mem_of_getElem? (i := 23) rfl)) e0 (g := (mkF m 1 #[.val (.ref b), .val (.int (0 : Int32)), .val (.int (2 : Int32)), .unset, .unset, .unset] [(.int (2 : Int32))])) rfl (hb hby own_d5_1) rfl (by decide) (cap := 2) (by decide) (by decide) (by decide) (by decide)
  obtain ⟨b1, g1⟩ : ∃ z, z = h0.size := ⟨_, rfl⟩
  rw [← g1] at A1 st1
  have K2 : Keep h0 h1 [] := own_kext E1
  have zzK2 : h0.size ≤ h1.size := K2.1
  have oo3 : Old Z n0 h1 := O0.keep K2 all0
  have kt4 : Keep h0 h1 [] := KT0.trans K2 all0
  have lab1 : b1 < h1.size := A1.lt
  have f5 : Arv Z h1 b1 k1 .byte (2 : Int32) [(.int (0 : Int32)), (.int (0 : Int32))] (.int (0 : Int32)) := (Arv.new A1 (by decide)).pad (pad_rep [] (.int (0 : Int32)) 2)
  refine own_by (T' := T1) (g' := (mkF m 3 #[.val (.ref b), .val (.int (0 : Int32)), .val (.int (2 : Int32)), .unset, .unset, .unset] [(.ref b1)])) st1 ?_
  refine own_by (T' := T1) (g' := (mkF m 4 #[.val (.ref b), .val (.int (0 : Int32)), .val (.int (2 : Int32)), .val (.ref b1), .unset, .unset] [])) (fun _ kt_ => XS.astoreN X1.here hx rfl (hb hby own_d5_3) rfl rfl (l' := #[.val (.ref b), .val (.int (0 : Int32)), .val (.int (2 : Int32)), .val (.ref b1), .unset, .unset]) rfl kt_) ?_
  refine own_by (T' := T1) (g' := (mkF m 5 #[.val (.ref b), .val (.int (0 : Int32)), .val (.int (2 : Int32)), .val (.ref b1), .unset, .unset] [(.ref b)])) (fun _ kt_ => XS.aloadN X1.here hx rfl (hb hby own_d5_4) rfl rfl kt_) ?_
  refine own_by (T' := T1) (g' := (mkF m 6 #[.val (.ref b), .val (.int (0 : Int32)), .val (.int (2 : Int32)), .val (.ref b1), .unset, .unset] [(.int (0 : Int32)), (.ref b)])) (fun _ kt_ => XS.iloadN X1.here hx rfl (hb hby own_d5_5) rfl kt_) ?_
  refine own_by (T' := T1) (g' := (mkF m 7 #[.val (.ref b), .val (.int (0 : Int32)), .val (.int (2 : Int32)), .val (.ref b1), .unset, .unset] [(.ref b1), (.int (0 : Int32)), (.ref b)])) (fun _ kt_ => XS.aloadN X1.here hx rfl (hb hby own_d5_6) rfl rfl kt_) ?_
  refine own_by (T' := T1) (g' := (mkF m 8 #[.val (.ref b), .val (.int (0 : Int32)), .val (.int (2 : Int32)), .val (.ref b1), .unset, .unset] [(.int (0 : Int32)), (.ref b1), (.int (0 : Int32)), (.ref b)])) (fun _ kt_ => XS.iconst X1.here hx rfl (hb hby own_d5_7) kt_) ?_
  refine own_by (T' := T1) (g' := (mkF m 9 #[.val (.ref b), .val (.int (0 : Int32)), .val (.int (2 : Int32)), .val (.ref b1), .unset, .unset] [(.int (2 : Int32)), (.int (0 : Int32)), (.ref b1), (.int (0 : Int32)), (.ref b)])) (fun _ kt_ => XS.iloadN X1.here hx rfl (hb hby own_d5_8) rfl kt_) ?_
  have f6 : Arv Z h1 b kC .char (2 : Int32) [(.int c0), (.int c1)] (.int (0 : Int32)) := (Vb.keep K2 nin0)
  have la7 : @LT.lt Nat instLTNat b h0.size := Vb.lt
  have ne8 : @Ne Nat b b1 := by omega
  obtain ⟨_, _, ⟨T9, L9, k9, n9⟩, -, X9, ⟨Lc9, hQ9, l9, y9, z9⟩, st9⟩ := Jvm.LawKit.callS X1 hx (y := (⟨"java/lang/StringUTF16", "compress", "([CI[BII)I"⟩ : MethodName)) hown (mvT hZ (hw _ (List.mem_of_getElem? (i := 24) rfl))) (mvT hZ (hw _ (List.mem_of_getElem? (i := 25) rfl))) (mvT hZ (hw _ (List.mem_of_getElem? (i := 21) rfl))) (mvT hZ (hw _ (List.mem_of_getElem? (i := 26) rfl))) (by decide) (backOf (W := 0) (rmC5 l Z a0 hw [] wC cC zC wO GS b b1 kC k1 c0 c1 h1 n0 (by omega) oo3 f6 f5 (by omega) ne8 hp0 hp1) hZ (hw _ (List.mem_of_getElem? (i := 26) rfl)) (hw _ (List.mem_of_getElem? (i := 21) rfl)) (by decide) (by decide)) (g := (mkF m 9 #[.val (.ref b), .val (.int (0 : Int32)), .val (.int (2 : Int32)), .val (.ref b1), .unset, .unset] [(.int (2 : Int32)), (.int (0 : Int32)), (.ref b1), (.int (0 : Int32)), (.ref b)])) rfl (by rw [hml]; rfl) (argsL := [(.ref b), (.int (0 : Int32)), (.ref b1), (.int (0 : Int32)), (.int (2 : Int32))]) (rest := []) (lenOf own_pd_2 rfl) rfl (by show 2 * 0 + _ ≤ _; exact Nat.le_of_eq rfl) (hb hby own_d5_9) (fun _ _ => ⟨rfl, e1, (by decide : 1 + 0 ≤ _), (by decide : 2 + 0 ≤ _)⟩)
  dsimp only [Pt.U, Pt.locs, Pt.cells, Pt.slots] at X9 l9 y9 z9 st9 hQ9
  subst l9 y9 z9
  obtain ⟨rfl, N9q, K9, p9_0⟩ := hQ9
  have N10 := Fr.app N0 N9q
  have zzK9 : h1.size ≤ T9.heap.size := K9.1
  have oo11 : Old Z n0 T9.heap := oo3.keep K9 (allS (by omega : n0 ≤ b1) all0)
  have kt12 : Keep h0 T9.heap [] := kt4.trans K9 (allS (Or.inr (by omega : h0.size ≤ b1)) all0)
  refine own_by (T' := T9) (g' := (mkF m 12 #[.val (.ref b), .val (.int (0 : Int32)), .val (.int (2 : Int32)), .val (.ref b1), .unset, .unset] [(.int (2 : Int32))])) st9 ?_
  refine own_by (T' := T9) (g' := (mkF m 14 #[.val (.ref b), .val (.int (0 : Int32)), .val (.int (2 : Int32)), .val (.ref b1), .val (.int (2 : Int32)), .unset] [])) (fun _ kt_ => XS.istore X9.here hx rfl (hb hby own_d5_12) rfl (l' := #[.val (.ref b), .val (.int (0 : Int32)), .val (.int (2 : Int32)), .val (.ref b1), .val (.int (2 : Int32)), .unset]) rfl kt_) ?_
  refine own_by (T' := T9) (g' := (mkF m 16 #[.val (.ref b), .val (.int (0 : Int32)), .val (.int (2 : Int32)), .val (.ref b1), .val (.int (2 : Int32)), .unset] [(.int (2 : Int32))])) (fun _ kt_ => XS.iload X9.here hx rfl (hb hby own_d5_14) rfl kt_) ?_
  refine own_by (T' := T9) (g' := (mkF m 17 #[.val (.ref b), .val (.int (0 : Int32)), .val (.int (2 : Int32)), .val (.ref b1), .val (.int (2 : Int32)), .unset] [(.int (2 : Int32)), (.int (2 : Int32))])) (fun _ kt_ => XS.iloadN X9.here hx rfl (hb hby own_d5_16) rfl kt_) ?_
  refine own_by (T' := T9) (g' := (mkF m 57 #[.val (.ref b), .val (.int (0 : Int32)), .val (.int (2 : Int32)), .val (.ref b1), .val (.int (2 : Int32)), .unset] [])) (fun _ kt_ => XS.icmpYes X9.here hx rfl (pc0 := 17) (pc' := 57) rfl (hb hby own_d5_17) rfl (XT.ii_eq_t (by decide)) (by decide) (by decide) kt_) ?_
  refine own_by (T' := T9) (g' := (mkF m 58 #[.val (.ref b), .val (.int (0 : Int32)), .val (.int (2 : Int32)), .val (.ref b1), .val (.int (2 : Int32)), .unset] [(.ref b1)])) (fun _ kt_ => XS.aloadN X9.here hx rfl (hb hby own_d5_57) rfl rfl kt_) ?_
  obtain ⟨fs13, hr13, hrun13, hended13, hW13, hsame13⟩ := X9.leave (v := some (.ref b1)) (fun h => by rw [Bd.returns] at h; cases h)
  refine ⟨_, _, retOut X9 hx (t := (.array .byte)) Bd.returns rfl (Or.inr (Or.inr (Or.inr (Or.inr ⟨rfl, rfl, rfl⟩)))) (hb hby own_d5_58) hr13, hrun13, hended13, _, _, rfl, ?_, ⟨_, rfl⟩, hW13, hsame13.mono (by decide) (by decide)⟩
  show Q_rmC3 Z wC cC zC wO b kC c0 c1 h0 n0 _ T9.heap _
  exact ⟨b1, k1, rfl, N10, kt12, (by omega), p9_0⟩
theorem own_d7_0 : decode jdk_52_method_15_code 0 = .ok (.iload_n 1, 1) := by decide +kernel
theorem own_d7_1 : decode jdk_52_method_15_code 1 = .ok (.aload_n 0, 1) := by decide +kernel
theorem own_d7_2 : decode jdk_52_method_15_code 2 = .ok (.arraylength, 1) := by decide +kernel
theorem own_d7_3 : decode jdk_52_method_15_code 3 = .ok (.isub, 1) := by decide +kernel
theorem own_d7_4 : decode jdk_52_method_15_code 4 = .ok (.bipush 31, 2) := by decide +kernel
theorem own_d7_6 : decode jdk_52_method_15_code 6 = .ok (.iushr, 1) := by decide +kernel
theorem own_d7_7 : decode jdk_52_method_15_code 7 = .ok (.i2b, 1) := by decide +kernel
theorem own_d7_8 : decode jdk_52_method_15_code 8 = .ok (.ireturn, 1) := by decide +kernel
theorem own_ef_rmCod (m : MethodId) (x0 : Addr) (x1 : Int32) : entryFrame m #[(.ref x0), (.int x1)] 2 = mkF m 0 #[.val (.ref x0), .val (.int x1)] [] := by first | (simp [entryFrame, mkF, argsToLocals, Value.category]; done) | rfl
def Q_rmCod (Z : State) (wC : Addr) (cC : Cell) (zC : Int32) (wO : Addr) (d : Addr) (kB : ClassId) (b0 : Int32) (b1 : Int32) (h0 : Heap) (n0 : Nat) (vv_ : Option Value) (hh_ : Heap) (LL_ : List Loc) : Prop := vv_ = some (.int (0 : Int32)) ∧ Fr n0 LL_ ∧ hh_ = h0
set_option maxRecDepth 65536 in
set_option maxHeartbeats 40000000 in
theorem rmCod (l : Launch) (Z : State) (a0 : Array Value) (hw : ∀ d ∈ tables_1, d.before a0 Z = true) (ws : List Jvm.Cond) (wC : Addr) (cC : Cell) (zC : Int32) (wO : Addr) (GS : Glob Z wC cC zC wO) (d : Addr) (kB : ClassId) (b0 : Int32) (b1 : Int32) (h0 : Heap) (n0 : Nat) (Z0 : n0 ≤ h0.size) (O0 : Old Z n0 h0) (Vd : Arv Z h0 d kB .byte (2 : Int32) [(.int b0), (.int b1)] (.int (0 : Int32))) :
    MetFree l (⟨"java/lang/StringUTF16", "coderFromArrayLen", "([BI)B"⟩ : MethodName) (head1 (Jvm.Cond.code (⟨"java/lang/StringUTF16", "coderFromArrayLen", "([BI)B"⟩ : MethodName) jdk_52_method_15_code 2 (some .byte) :: ws) ({ frames := 0, cells := 0, slots := 0, locals := 0 } : Room)) (fun aa_ UU_ => aa_ = #[(.ref d), (.int (2 : Int32))] ∧ Z.Warmed39 UU_.vm ∧ UU_.heap = h0) (fun _ _ _ _ _ => True) (fun _ UU_ oo_ UV_ => ∃ vv_ LL_, oo_ = .returned vv_ ∧ Q_rmCod Z wC cC zC wO d kB b0 b1 h0 n0 vv_ UV_.heap LL_ ∧ FrameEnd UU_ oo_ UV_ LL_ ({ frames := 0, cells := 0, slots := 0, locals := 0 } : Room).cells ({ frames := 0, cells := 0, slots := 0, locals := 0 } : Room).slots) := by
  refine MetFree.of_bodySF (plainFor_of_name own_pn_java_lang_StringUTF16) hisR ?_
  intro p e s m args below meth c s₁ Bd hml0 hP hK
  obtain ⟨rfl, hZ, hh⟩ := hP
  have hx := Bd.exec
  have hby := Bd.bytes
  have hml : c.maxLocals = 2 := hml0
  have hown : s.vm.findClass "java/lang/StringUTF16" = some m.cls := findClass_of_methodNamed Bd.named
  have hnm := (name_of_methodNamed Bd.named Bd.method).1
  have X0 : Stand p l e ({ frames := 0, cells := 0, slots := 0, locals := 0 } : Room) s m #[(.ref d), (.int (2 : Int32))] below meth c s₁ [] 0 0 := Stand.of_body Bd
  have e0 : s₁.heap = h0 := by rw [← hh, Bd.state]; rfl
  have N0 := Fr.nil n0
  have hn0 : Z.heap.size = n0 := O0.1
  have KT0 : Keep h0 h0 [] := Keep.refl _ _
  refine own_enter (Φ := fun oo_ UV_ => ∃ vv_ LL_, oo_ = .returned vv_ ∧ Q_rmCod Z wC cC zC wO d kB b0 b1 h0 n0 vv_ UV_.heap LL_ ∧ FrameEnd s oo_ UV_ LL_ ({ frames := 0, cells := 0, slots := 0, locals := 0 } : Room).cells ({ frames := 0, cells := 0, slots := 0, locals := 0 } : Room).slots) (own_ef_rmCod m d (2 : Int32)) ?_
  refine own_by (T' := s₁) (g' := (mkF m 1 #[.val (.ref d), .val (.int (2 : Int32))] [(.int (2 : Int32))])) (fun _ kt_ => XS.iloadN X0.here hx rfl (hb hby own_d7_0) rfl kt_) ?_
  refine own_by (T' := s₁) (g' := (mkF m 2 #[.val (.ref d), .val (.int (2 : Int32))] [(.ref d), (.int (2 : Int32))])) (fun _ kt_ => XS.aloadN X0.here hx rfl (hb hby own_d7_1) rfl rfl kt_) ?_
  obtain ⟨cl1, Ar1, q1, S1, M1, H1, G1⟩ := id Vd
  refine own_by (T' := s₁) (g' := (mkF m 3 #[.val (.ref d), .val (.int (2 : Int32))] [(.int (2 : Int32)), (.int (2 : Int32))])) (fun _ kt_ => X0.arraylength hx (by rw [e0]; exact Ar1.1) (State.isArrayOf_alike hZ.alike Ar1.2.1) (g := (mkF m 2 #[.val (.ref d), .val (.int (2 : Int32))] [(.ref d), (.int (2 : Int32))])) rfl rfl (hb hby own_d7_2) _ (by rw [len_of S1 M1]; exact kt_)) ?_
  refine own_by (T' := s₁) (g' := (mkF m 4 #[.val (.ref d), .val (.int (2 : Int32))] [(.int ((2 : Int32) - (2 : Int32)))])) (fun _ kt_ => XS.isub X0.here hx rfl (hb hby own_d7_3) rfl kt_) ?_
  rw [show ((2 : Int32) - (2 : Int32)) = (0 : Int32) from by decide]
  refine own_by (T' := s₁) (g' := (mkF m 6 #[.val (.ref d), .val (.int (2 : Int32))] [(.int (31 : Int32)), (.int (0 : Int32))])) (fun _ kt_ => XS.bipush X0.here hx rfl (hb hby own_d7_4) kt_) ?_
  refine own_by (T' := s₁) (g' := (mkF m 7 #[.val (.ref d), .val (.int (2 : Int32))] [(.int (((0 : Int32).toUInt32 >>> ((31 : Int32) &&& 31).toUInt32).toInt32))])) (fun _ kt_ => XS.iushr X0.here hx rfl (hb hby own_d7_6) rfl kt_) ?_
  refine own_by (T' := s₁) (g' := (mkF m 8 #[.val (.ref d), .val (.int (2 : Int32))] [(.int (((0 : Int32).toUInt32 >>> ((31 : Int32) &&& 31).toUInt32).toInt32).toInt8.toInt32)])) (fun _ kt_ => XS.i2b X0.here hx rfl (hb hby own_d7_7) rfl kt_) ?_
  have hn2 : nar .byte ((((0 : Int32).toUInt32 >>> ((31 : Int32) &&& 31).toUInt32).toInt32).toInt8.toInt32) = (((0 : Int32).toUInt32 >>> ((31 : Int32) &&& 31).toUInt32).toInt32).toInt8.toInt32 := by decide
  have hr3 : (((0 : Int32).toUInt32 >>> ((31 : Int32) &&& 31).toUInt32).toInt32).toInt8.toInt32 = (0 : Int32) := by decide
  obtain ⟨fs4, hr4, hrun4, hended4, hW4, hsame4⟩ := X0.leave (v := some (.int (nar .byte ((((0 : Int32).toUInt32 >>> ((31 : Int32) &&& 31).toUInt32).toInt32).toInt8.toInt32)))) (fun h => by rw [Bd.returns] at h; cases h)
  refine ⟨_, _, retN X0 hx (t := .byte) Bd.returns (by simp) (hb hby own_d7_8) hr4, hrun4, hended4, _, _, rfl, ?_, ⟨_, rfl⟩, hW4, hsame4.mono (by decide) (by decide)⟩
  show Q_rmCod Z wC cC zC wO d kB b0 b1 h0 n0 _ s₁.heap _
  exact ⟨(congrArg (fun z => some (Value.int z)) (hn2.trans hr3)), N0, e0⟩
theorem own_pd_3 : parseMethodDescriptor "([CII)[B" = some ⟨[(.array .char), .int, .int], some (.array .byte)⟩ := by decide +kernel
theorem own_pd_4 : parseMethodDescriptor "([BI)B" = some ⟨[(.array .byte), .int], some .byte⟩ := by decide +kernel
theorem own_d3_0 : decode jdk_42_method_149_code 0 = .ok (.aload_n 0, 1) := by decide +kernel
theorem own_d3_1 : decode jdk_42_method_149_code 1 = .ok (.invokespecial 1, 3) := by decide +kernel
theorem own_d3_4 : decode jdk_42_method_149_code 4 = .ok (.iload_n 3, 1) := by decide +kernel
theorem own_d3_5 : decode jdk_42_method_149_code 5 = .ok (.ifCond .ne 22, 3) := by decide +kernel
theorem own_d3_27 : decode jdk_42_method_149_code 27 = .ok (.getstatic 38, 3) := by decide +kernel
theorem own_d3_30 : decode jdk_42_method_149_code 30 = .ok (.ifCond .eq 28, 3) := by decide +kernel
theorem own_d3_33 : decode jdk_42_method_149_code 33 = .ok (.aload_n 1, 1) := by decide +kernel
theorem own_d3_34 : decode jdk_42_method_149_code 34 = .ok (.iload_n 2, 1) := by decide +kernel
theorem own_d3_35 : decode jdk_42_method_149_code 35 = .ok (.iload_n 3, 1) := by decide +kernel
theorem own_d3_36 : decode jdk_42_method_149_code 36 = .ok (.invokestatic 177, 3) := by decide +kernel
theorem own_d3_39 : decode jdk_42_method_149_code 39 = .ok (.astore 5, 2) := by decide +kernel
theorem own_d3_41 : decode jdk_42_method_149_code 41 = .ok (.aload_n 0, 1) := by decide +kernel
theorem own_d3_42 : decode jdk_42_method_149_code 42 = .ok (.aload 5, 2) := by decide +kernel
theorem own_d3_44 : decode jdk_42_method_149_code 44 = .ok (.iload_n 3, 1) := by decide +kernel
theorem own_d3_45 : decode jdk_42_method_149_code 45 = .ok (.invokestatic 47, 3) := by decide +kernel
theorem own_d3_48 : decode jdk_42_method_149_code 48 = .ok (.putfield 15, 3) := by decide +kernel
theorem own_d3_51 : decode jdk_42_method_149_code 51 = .ok (.aload_n 0, 1) := by decide +kernel
theorem own_d3_52 : decode jdk_42_method_149_code 52 = .ok (.aload 5, 2) := by decide +kernel
theorem own_d3_54 : decode jdk_42_method_149_code 54 = .ok (.putfield 9, 3) := by decide +kernel
theorem own_d3_57 : decode jdk_42_method_149_code 57 = .ok (.return_, 1) := by decide +kernel
theorem own_pn_java_lang_String : plainName "java/lang/String" = true := by first | (simp [plainName, overriddenIn]; done) | decide +kernel
theorem own_ef_rmS4 (m : MethodId) (x0 : Addr) (x1 : Addr) (x2 : Int32) (x3 : Int32) : entryFrame m #[(.ref x0), (.ref x1), (.int x2), (.int x3), .null] 6 = mkF m 0 #[.val (.ref x0), .val (.ref x1), .val (.int x2), .val (.int x3), .val .null, .unset] [] := by first | (simp [entryFrame, mkF, argsToLocals, Value.category]; done) | rfl
def Q_rmS4 (Z : State) (wC : Addr) (cC : Cell) (zC : Int32) (wO : Addr) (x : Addr) (b : Addr) (kC : ClassId) (c0 : Int32) (c1 : Int32) (h0 : Heap) (n0 : Nat) (vv_ : Option Value) (hh_ : Heap) (LL_ : List Loc) : Prop := vv_ = none ∧ Fr n0 LL_ ∧ Keep h0 hh_ [x]
set_option maxRecDepth 65536 in
set_option maxHeartbeats 40000000 in
theorem rmS4 (l : Launch) (Z : State) (a0 : Array Value) (hw : ∀ d ∈ tables_1, d.before a0 Z = true) (ws : List Jvm.Cond) (wC : Addr) (cC : Cell) (zC : Int32) (wO : Addr) (GS : Glob Z wC cC zC wO) (x : Addr) (b : Addr) (kC : ClassId) (c0 : Int32) (c1 : Int32) (h0 : Heap) (n0 : Nat) (Z0 : n0 ≤ h0.size) (O0 : Old Z n0 h0) (E_x : Exa Z h0 x "java/lang/String") (g_x : n0 ≤ x) (Fv : Fld Z h0 x "java/lang/String" "value" "[B" .null) (Fc : Fld Z h0 x "java/lang/String" "coder" "B" (.int (0 : Int32))) (Vb : Arv Z h0 b kC .char (2 : Int32) [(.int c0), (.int c1)] (.int (0 : Int32))) (hbx : b ≠ x) (hp0 : ¬ (255 : Int32) < c0) (hp1 : ¬ (255 : Int32) < c1) :
    MetFree l (⟨"java/lang/String", "<init>", "([CIILjava/lang/Void;)V"⟩ : MethodName) (head1 (Jvm.Cond.code (⟨"java/lang/String", "<init>", "([CIILjava/lang/Void;)V"⟩ : MethodName) jdk_42_method_149_code 6 none :: ws) ({ frames := 2, cells := 1, slots := 2, locals := 35 } : Room)) (fun aa_ UU_ => aa_ = #[(.ref x), (.ref b), (.int (0 : Int32)), (.int (2 : Int32)), .null] ∧ Z.Warmed39 UU_.vm ∧ UU_.heap = h0) (fun _ _ _ _ _ => True) (fun _ UU_ oo_ UV_ => ∃ vv_ LL_, oo_ = .returned vv_ ∧ Q_rmS4 Z wC cC zC wO x b kC c0 c1 h0 n0 vv_ UV_.heap LL_ ∧ FrameEnd UU_ oo_ UV_ LL_ ({ frames := 2, cells := 1, slots := 2, locals := 35 } : Room).cells ({ frames := 2, cells := 1, slots := 2, locals := 35 } : Room).slots) := by
  refine MetFree.of_bodySF (plainFor_of_name own_pn_java_lang_String) hisR ?_
  intro p e s m args below meth c s₁ Bd hml0 hP hK
  obtain ⟨rfl, hZ, hh⟩ := hP
  have hx := Bd.exec
  have hby := Bd.bytes
  have hml : c.maxLocals = 6 := hml0
  have hown : s.vm.findClass "java/lang/String" = some m.cls := findClass_of_methodNamed Bd.named
  have hnm := (name_of_methodNamed Bd.named Bd.method).1
  have X0 : Stand p l e ({ frames := 2, cells := 1, slots := 2, locals := 35 } : Room) s m #[(.ref x), (.ref b), (.int (0 : Int32)), (.int (2 : Int32)), .null] below meth c s₁ [] 0 0 := Stand.of_body Bd
  have e0 : s₁.heap = h0 := by rw [← hh, Bd.state]; rfl
  have N0 := Fr.nil n0
  have hn0 : Z.heap.size = n0 := O0.1
  have KT0 : Keep h0 h0 [x] := Keep.refl _ _
  refine own_enter (Φ := fun oo_ UV_ => ∃ vv_ LL_, oo_ = .returned vv_ ∧ Q_rmS4 Z wC cC zC wO x b kC c0 c1 h0 n0 vv_ UV_.heap LL_ ∧ FrameEnd s oo_ UV_ LL_ ({ frames := 2, cells := 1, slots := 2, locals := 35 } : Room).cells ({ frames := 2, cells := 1, slots := 2, locals := 35 } : Room).slots) (own_ef_rmS4 m x b (0 : Int32) (2 : Int32)) ?_
  have ne1 : b ≠ x := hbx
  refine own_by (T' := s₁) (g' := (mkF m 1 #[.val (.ref x), .val (.ref b), .val (.int (0 : Int32)), .val (.int (2 : Int32)), .val .null, .unset] [(.ref x)])) (fun _ kt_ => XS.aloadN X0.here hx rfl (hb hby own_d3_0) rfl rfl kt_) ?_
  obtain ⟨T2, X2, e2, st2⟩ := initO X0 hx hZ hown (hw _ (List.mem_of_getElem? (i := 15) rfl)) (hw _ (List.mem_of_getElem? (i := 16) rfl)) (hw _ (List.mem_of_getElem? (i := 17) rfl)) e0 (g := (mkF m 1 #[.val (.ref x), .val (.ref b), .val (.int (0 : Int32)), .val (.int (2 : Int32)), .val .null, .unset] [(.ref x)])) rfl (by rw [hml]; rfl) rfl (hb hby own_d3_1) (by decide) (W := 0) (by show 2 * 0 + _ ≤ _; exact Nat.le_of_eq rfl) (by decide)
  refine own_by (T' := T2) (g' := (mkF m 4 #[.val (.ref x), .val (.ref b), .val (.int (0 : Int32)), .val (.int (2 : Int32)), .val .null, .unset] [])) st2 ?_
  refine own_by (T' := T2) (g' := (mkF m 5 #[.val (.ref x), .val (.ref b), .val (.int (0 : Int32)), .val (.int (2 : Int32)), .val .null, .unset] [(.int (2 : Int32))])) (fun _ kt_ => XS.iloadN X2.here hx rfl (hb hby own_d3_4) rfl kt_) ?_
  refine own_by (T' := T2) (g' := (mkF m 27 #[.val (.ref x), .val (.ref b), .val (.int (0 : Int32)), .val (.int (2 : Int32)), .val .null, .unset] [])) (fun _ kt_ => XS.ifYes X2.here hx rfl (pc0 := 5) (pc' := 27) rfl (hb hby own_d3_5) rfl (XT.i0_ne_t (by decide)) (by decide) (by decide) kt_) ?_
  have f3 := GS.2.2.2.1.ext O0.2
  obtain ⟨T4, X4, e4, st4⟩ := getS2 X2 hx hZ hown (host := "") (Or.inl (hw _ (List.mem_of_getElem? (i := 18) rfl))) Via.refl e2 f3 (g := (mkF m 27 #[.val (.ref x), .val (.ref b), .val (.int (0 : Int32)), .val (.int (2 : Int32)), .val .null, .unset] [])) rfl (hb hby own_d3_27)
  refine own_by (T' := T4) (g' := (mkF m 30 #[.val (.ref x), .val (.ref b), .val (.int (0 : Int32)), .val (.int (2 : Int32)), .val .null, .unset] [(.int zC)])) st4 ?_
  refine own_by (T' := T4) (g' := (mkF m 33 #[.val (.ref x), .val (.ref b), .val (.int (0 : Int32)), .val (.int (2 : Int32)), .val .null, .unset] [])) (fun _ kt_ => XS.ifNo X4.here hx rfl (hb hby own_d3_30) rfl (XT.i0_eq_f GS.2.2.2.2.1) kt_) ?_
  refine own_by (T' := T4) (g' := (mkF m 34 #[.val (.ref x), .val (.ref b), .val (.int (0 : Int32)), .val (.int (2 : Int32)), .val .null, .unset] [(.ref b)])) (fun _ kt_ => XS.aloadN X4.here hx rfl (hb hby own_d3_33) rfl rfl kt_) ?_
  refine own_by (T' := T4) (g' := (mkF m 35 #[.val (.ref x), .val (.ref b), .val (.int (0 : Int32)), .val (.int (2 : Int32)), .val .null, .unset] [(.int (0 : Int32)), (.ref b)])) (fun _ kt_ => XS.iloadN X4.here hx rfl (hb hby own_d3_34) rfl kt_) ?_
  refine own_by (T' := T4) (g' := (mkF m 36 #[.val (.ref x), .val (.ref b), .val (.int (0 : Int32)), .val (.int (2 : Int32)), .val .null, .unset] [(.int (2 : Int32)), (.int (0 : Int32)), (.ref b)])) (fun _ kt_ => XS.iloadN X4.here hx rfl (hb hby own_d3_35) rfl kt_) ?_
  obtain ⟨_, _, ⟨T5, L5, k5, n5⟩, -, X5, ⟨Lc5, hQ5, l5, y5, z5⟩, st5⟩ := Jvm.LawKit.callS X4 hx (y := (⟨"java/lang/StringUTF16", "compress", "([CII)[B"⟩ : MethodName)) hown (mvT hZ (hw _ (List.mem_of_getElem? (i := 19) rfl))) (mvT hZ (hw _ (List.mem_of_getElem? (i := 20) rfl))) (mvT hZ (hw _ (List.mem_of_getElem? (i := 21) rfl))) (mvT hZ (hw _ (List.mem_of_getElem? (i := 22) rfl))) (by decide) (backOf (W := 0) (rmC3 l Z a0 hw [] wC cC zC wO GS b kC c0 c1 h0 n0 (by omega) O0 Vb hp0 hp1) hZ (hw _ (List.mem_of_getElem? (i := 22) rfl)) (hw _ (List.mem_of_getElem? (i := 21) rfl)) (by decide) (by decide)) (g := (mkF m 36 #[.val (.ref x), .val (.ref b), .val (.int (0 : Int32)), .val (.int (2 : Int32)), .val .null, .unset] [(.int (2 : Int32)), (.int (0 : Int32)), (.ref b)])) rfl (by rw [hml]; rfl) (argsL := [(.ref b), (.int (0 : Int32)), (.int (2 : Int32))]) (rest := []) (lenOf own_pd_3 rfl) rfl (by show 2 * 0 + _ ≤ _; exact Nat.le_of_eq rfl) (hb hby own_d3_36) (fun _ _ => ⟨rfl, e4, (by decide : 0 + 1 ≤ _), (by decide : 0 + 2 ≤ _)⟩)
  dsimp only [Pt.U, Pt.locs, Pt.cells, Pt.slots] at X5 l5 y5 z5 st5 hQ5
  subst l5 y5 z5
  obtain ⟨d_6, kB_7, rfl, N5q, K5, p5_0, p5_1⟩ := hQ5
  have N8 := Fr.app N0 N5q
  have gd_6 : h0.size ≤ d_6 := p5_0
  have zzK5 : h0.size ≤ T5.heap.size := K5.1
  have oo9 : Old Z n0 T5.heap := O0.keep K5 all0
  have kt10 : Keep h0 T5.heap [x] := KT0.trans K5 all0
  refine own_by (T' := T5) (g' := (mkF m 39 #[.val (.ref x), .val (.ref b), .val (.int (0 : Int32)), .val (.int (2 : Int32)), .val .null, .unset] [(.ref d_6)])) st5 ?_
  refine own_by (T' := T5) (g' := (mkF m 41 #[.val (.ref x), .val (.ref b), .val (.int (0 : Int32)), .val (.int (2 : Int32)), .val .null, .val (.ref d_6)] [])) (fun _ kt_ => XS.astore X5.here hx rfl (hb hby own_d3_39) rfl rfl (l' := #[.val (.ref x), .val (.ref b), .val (.int (0 : Int32)), .val (.int (2 : Int32)), .val .null, .val (.ref d_6)]) rfl kt_) ?_
  refine own_by (T' := T5) (g' := (mkF m 42 #[.val (.ref x), .val (.ref b), .val (.int (0 : Int32)), .val (.int (2 : Int32)), .val .null, .val (.ref d_6)] [(.ref x)])) (fun _ kt_ => XS.aloadN X5.here hx rfl (hb hby own_d3_41) rfl rfl kt_) ?_
  refine own_by (T' := T5) (g' := (mkF m 44 #[.val (.ref x), .val (.ref b), .val (.int (0 : Int32)), .val (.int (2 : Int32)), .val .null, .val (.ref d_6)] [(.ref d_6), (.ref x)])) (fun _ kt_ => XS.aload X5.here hx rfl (hb hby own_d3_42) rfl rfl kt_) ?_
  refine own_by (T' := T5) (g' := (mkF m 45 #[.val (.ref x), .val (.ref b), .val (.int (0 : Int32)), .val (.int (2 : Int32)), .val .null, .val (.ref d_6)] [(.int (2 : Int32)), (.ref d_6), (.ref x)])) (fun _ kt_ => XS.iloadN X5.here hx rfl (hb hby own_d3_44) rfl kt_) ?_
  obtain ⟨_, _, ⟨T11, L11, k11, n11⟩, -, X11, ⟨Lc11, hQ11, l11, y11, z11⟩, st11⟩ := Jvm.LawKit.callS X5 hx (y := (⟨"java/lang/StringUTF16", "coderFromArrayLen", "([BI)B"⟩ : MethodName)) hown (mvT hZ (hw _ (List.mem_of_getElem? (i := 27) rfl))) (mvT hZ (hw _ (List.mem_of_getElem? (i := 28) rfl))) (mvT hZ (hw _ (List.mem_of_getElem? (i := 21) rfl))) (mvT hZ (hw _ (List.mem_of_getElem? (i := 29) rfl))) (by decide) (backOf (W := 1) (rmCod l Z a0 hw [] wC cC zC wO GS d_6 kB_7 c0.toInt8.toInt32 c1.toInt8.toInt32 T5.heap n0 (by omega) oo9 p5_1) hZ (hw _ (List.mem_of_getElem? (i := 29) rfl)) (hw _ (List.mem_of_getElem? (i := 21) rfl)) (by decide) (by decide)) (g := (mkF m 45 #[.val (.ref x), .val (.ref b), .val (.int (0 : Int32)), .val (.int (2 : Int32)), .val .null, .val (.ref d_6)] [(.int (2 : Int32)), (.ref d_6), (.ref x)])) rfl (by rw [hml]; rfl) (argsL := [(.ref d_6), (.int (2 : Int32))]) (rest := [(.ref x)]) (lenOf own_pd_4 rfl) rfl (by show 2 * 0 + _ ≤ _; exact Nat.le_of_eq rfl) (hb hby own_d3_45) (fun _ _ => ⟨rfl, rfl, (by decide : 1 + 0 ≤ _), (by decide : 2 + 0 ≤ _)⟩)
  dsimp only [Pt.U, Pt.locs, Pt.cells, Pt.slots] at X11 l11 y11 z11 st11 hQ11
  subst l11 y11 z11
  obtain ⟨rfl, N11q, e11⟩ := hQ11
  have N12 := Fr.app N8 N11q
  refine own_by (T' := T11) (g' := (mkF m 48 #[.val (.ref x), .val (.ref b), .val (.int (0 : Int32)), .val (.int (2 : Int32)), .val .null, .val (.ref d_6)] [(.int (0 : Int32)), (.ref x)])) st11 ?_
  have f13 : Exa Z T5.heap x "java/lang/String" := (E_x.keep K5)
  have f14 : Fld Z T5.heap x "java/lang/String" "coder" "B" (.int (0 : Int32)) := (Fc.keep K5 nin0)
  obtain ⟨T15, h15, X15, e15, W15, st15⟩ := putFN X11 hx hZ hown (hw _ (List.mem_of_getElem? (i := 30) rfl)) Via.refl e11 f14 f13 (Or.inr ⟨(hw _ (List.mem_of_getElem? (i := 31) rfl)), rfl, hnm⟩) (hw _ (List.mem_of_getElem? (i := 6) rfl)) (ty := .byte) (v' := (.int (0 : Int32).toInt8.toInt32)) (by decide) rfl (fits_nar_byte _) (g := (mkF m 48 #[.val (.ref x), .val (.ref b), .val (.int (0 : Int32)), .val (.int (2 : Int32)), .val .null, .val (.ref d_6)] [(.int (0 : Int32)), (.ref x)])) rfl rfl (hb hby own_d3_48)
  have K16 : Keep T5.heap h15 [x] := Keep.of_wr W15
  have f17 : Fld Z T5.heap x "java/lang/String" "value" "[B" .null := (Fv.keep K5 nin0)
  have zzK16 : T5.heap.size ≤ h15.size := K16.1
  have oo18 : Old Z n0 h15 := oo9.keep K16 (allS (by omega : n0 ≤ x) all0)
  have kt19 : Keep h0 h15 [x] := kt10.trans K16 (allS (Or.inl (List.mem_of_getElem? (i := 0) rfl)) all0)
  have f20 : Fld Z h15 x "java/lang/String" "value" "[B" .null := f17.other W15 (Or.inr (slot_ne (Or.inr (hw _ (List.mem_of_getElem? (i := 33) rfl))) (Or.inr (hw _ (List.mem_of_getElem? (i := 31) rfl))) (by decide) (t := (.array .byte)) (t' := .byte) (by decide) (by decide)))
  have f21 : Fld Z h15 x "java/lang/String" "coder" "B" (.int (0 : Int32).toInt8.toInt32) := f14.same W15
  have N22 := Fr.snoc X15 N12 (by omega : n0 ≤ x)
  refine own_by (T' := T15) (g' := (mkF m 51 #[.val (.ref x), .val (.ref b), .val (.int (0 : Int32)), .val (.int (2 : Int32)), .val .null, .val (.ref d_6)] [])) st15 ?_
  refine own_by (T' := T15) (g' := (mkF m 52 #[.val (.ref x), .val (.ref b), .val (.int (0 : Int32)), .val (.int (2 : Int32)), .val .null, .val (.ref d_6)] [(.ref x)])) (fun _ kt_ => XS.aloadN X15.here hx rfl (hb hby own_d3_51) rfl rfl kt_) ?_
  refine own_by (T' := T15) (g' := (mkF m 54 #[.val (.ref x), .val (.ref b), .val (.int (0 : Int32)), .val (.int (2 : Int32)), .val .null, .val (.ref d_6)] [(.ref d_6), (.ref x)])) (fun _ kt_ => XS.aload X15.here hx rfl (hb hby own_d3_52) rfl rfl kt_) ?_
  have f23 : Exa Z h15 x "java/lang/String" := (f13.keep K16)
  obtain ⟨T24, h24, X24, e24, W24, st24⟩ := putF X15 hx hZ hown (host := "") (Or.inl (hw _ (List.mem_of_getElem? (i := 32) rfl))) Via.refl e15 f20 f23 (Or.inr ⟨(hw _ (List.mem_of_getElem? (i := 33) rfl)), rfl, hnm⟩) (hw _ (List.mem_of_getElem? (i := 6) rfl)) (ty := (.array .byte)) (by decide) rfl rfl (g := (mkF m 54 #[.val (.ref x), .val (.ref b), .val (.int (0 : Int32)), .val (.int (2 : Int32)), .val .null, .val (.ref d_6)] [(.ref d_6), (.ref x)])) rfl rfl (hb hby own_d3_54)
  have K25 : Keep h15 h24 [x] := Keep.of_wr W24
  have zzK25 : h15.size ≤ h24.size := K25.1
  have oo26 : Old Z n0 h24 := oo18.keep K25 (allS (by omega : n0 ≤ x) all0)
  have kt27 : Keep h0 h24 [x] := kt19.trans K25 (allS (Or.inl (List.mem_of_getElem? (i := 0) rfl)) all0)
  have f28 : Fld Z h24 x "java/lang/String" "value" "[B" (.ref d_6) := f20.same W24
  have f29 : Fld Z h24 x "java/lang/String" "coder" "B" (.int (0 : Int32).toInt8.toInt32) := f21.other W24 (Or.inr (slot_ne (Or.inr (hw _ (List.mem_of_getElem? (i := 31) rfl))) (Or.inr (hw _ (List.mem_of_getElem? (i := 33) rfl))) (by decide) (t := .byte) (t' := (.array .byte)) (by decide) (by decide)))
  have N30 := Fr.snoc X24 N22 (by omega : n0 ≤ x)
  refine own_by (T' := T24) (g' := (mkF m 57 #[.val (.ref x), .val (.ref b), .val (.int (0 : Int32)), .val (.int (2 : Int32)), .val .null, .val (.ref d_6)] [])) st24 ?_
  obtain ⟨fs31, hr31, hrun31, hended31, hW31, hsame31⟩ := X24.leave (v := none) (fun _ => rfl)
  refine ⟨_, _, X24.returnOut hx Bd.returns (hb hby own_d3_57) hr31, hrun31, hended31, _, _, rfl, ?_, ⟨_, rfl⟩, hW31, hsame31.mono (by decide) (by decide)⟩
  show Q_rmS4 Z wC cC zC wO x b kC c0 c1 h0 n0 _ T24.heap _
  rw [e24]
  exact ⟨rfl, N30, kt27⟩
theorem own_pd_5 : parseMethodDescriptor "([CIILjava/lang/Void;)V" = some ⟨[(.array .char), .int, .int, (.object "java/lang/Void")], none⟩ := by decide +kernel
theorem own_d2_0 : decode jdk_42_method_3_code 0 = .ok (.aload_n 0, 1) := by decide +kernel
theorem own_d2_1 : decode jdk_42_method_3_code 1 = .ok (.aload_n 1, 1) := by decide +kernel
theorem own_d2_2 : decode jdk_42_method_3_code 2 = .ok (.iconst 0, 1) := by decide +kernel
theorem own_d2_3 : decode jdk_42_method_3_code 3 = .ok (.aload_n 1, 1) := by decide +kernel
theorem own_d2_4 : decode jdk_42_method_3_code 4 = .ok (.arraylength, 1) := by decide +kernel
theorem own_d2_5 : decode jdk_42_method_3_code 5 = .ok (.aconst_null, 1) := by decide +kernel
theorem own_d2_6 : decode jdk_42_method_3_code 6 = .ok (.invokespecial 27, 3) := by decide +kernel
theorem own_d2_9 : decode jdk_42_method_3_code 9 = .ok (.return_, 1) := by decide +kernel
theorem own_ef_rmS1 (m : MethodId) (x0 : Addr) (x1 : Addr) : entryFrame m #[(.ref x0), (.ref x1)] 2 = mkF m 0 #[.val (.ref x0), .val (.ref x1)] [] := by first | (simp [entryFrame, mkF, argsToLocals, Value.category]; done) | rfl
def Q_rmS1 (Z : State) (wC : Addr) (cC : Cell) (zC : Int32) (wO : Addr) (x : Addr) (b : Addr) (kC : ClassId) (c0 : Int32) (c1 : Int32) (h0 : Heap) (n0 : Nat) (vv_ : Option Value) (hh_ : Heap) (LL_ : List Loc) : Prop := vv_ = none ∧ Fr n0 LL_ ∧ Keep h0 hh_ [x]
set_option maxRecDepth 65536 in
set_option maxHeartbeats 40000000 in
theorem rmS1 (l : Launch) (Z : State) (a0 : Array Value) (hw : ∀ d ∈ tables_1, d.before a0 Z = true) (ws : List Jvm.Cond) (wC : Addr) (cC : Cell) (zC : Int32) (wO : Addr) (GS : Glob Z wC cC zC wO) (x : Addr) (b : Addr) (kC : ClassId) (c0 : Int32) (c1 : Int32) (h0 : Heap) (n0 : Nat) (Z0 : n0 ≤ h0.size) (O0 : Old Z n0 h0) (E_x : Exa Z h0 x "java/lang/String") (g_x : n0 ≤ x) (Fv : Fld Z h0 x "java/lang/String" "value" "[B" .null) (Fc : Fld Z h0 x "java/lang/String" "coder" "B" (.int (0 : Int32))) (Vb : Arv Z h0 b kC .char (2 : Int32) [(.int c0), (.int c1)] (.int (0 : Int32))) (hbx : b ≠ x) (hp0 : ¬ (255 : Int32) < c0) (hp1 : ¬ (255 : Int32) < c1) :
    MetFree l (⟨"java/lang/String", "<init>", "([C)V"⟩ : MethodName) (head1 (Jvm.Cond.code (⟨"java/lang/String", "<init>", "([C)V"⟩ : MethodName) jdk_42_method_3_code 2 none :: ws) ({ frames := 3, cells := 1, slots := 2, locals := 52 } : Room)) (fun aa_ UU_ => aa_ = #[(.ref x), (.ref b)] ∧ Z.Warmed39 UU_.vm ∧ UU_.heap = h0) (fun _ _ _ _ _ => True) (fun _ UU_ oo_ UV_ => ∃ vv_ LL_, oo_ = .returned vv_ ∧ Q_rmS1 Z wC cC zC wO x b kC c0 c1 h0 n0 vv_ UV_.heap LL_ ∧ FrameEnd UU_ oo_ UV_ LL_ ({ frames := 3, cells := 1, slots := 2, locals := 52 } : Room).cells ({ frames := 3, cells := 1, slots := 2, locals := 52 } : Room).slots) := by
  refine MetFree.of_bodySF (plainFor_of_name own_pn_java_lang_String) hisR ?_
  intro p e s m args below meth c s₁ Bd hml0 hP hK
  obtain ⟨rfl, hZ, hh⟩ := hP
  have hx := Bd.exec
  have hby := Bd.bytes
  have hml : c.maxLocals = 2 := hml0
  have hown : s.vm.findClass "java/lang/String" = some m.cls := findClass_of_methodNamed Bd.named
  have hnm := (name_of_methodNamed Bd.named Bd.method).1
  have X0 : Stand p l e ({ frames := 3, cells := 1, slots := 2, locals := 52 } : Room) s m #[(.ref x), (.ref b)] below meth c s₁ [] 0 0 := Stand.of_body Bd
  have e0 : s₁.heap = h0 := by rw [← hh, Bd.state]; rfl
  have N0 := Fr.nil n0
  have hn0 : Z.heap.size = n0 := O0.1
  have KT0 : Keep h0 h0 [x] := Keep.refl _ _
  refine own_enter (Φ := fun oo_ UV_ => ∃ vv_ LL_, oo_ = .returned vv_ ∧ Q_rmS1 Z wC cC zC wO x b kC c0 c1 h0 n0 vv_ UV_.heap LL_ ∧ FrameEnd s oo_ UV_ LL_ ({ frames := 3, cells := 1, slots := 2, locals := 52 } : Room).cells ({ frames := 3, cells := 1, slots := 2, locals := 52 } : Room).slots) (own_ef_rmS1 m x b) ?_
  have ne1 : b ≠ x := hbx
  refine own_by (T' := s₁) (g' := (mkF m 1 #[.val (.ref x), .val (.ref b)] [(.ref x)])) (fun _ kt_ => XS.aloadN X0.here hx rfl (hb hby own_d2_0) rfl rfl kt_) ?_
  refine own_by (T' := s₁) (g' := (mkF m 2 #[.val (.ref x), .val (.ref b)] [(.ref b), (.ref x)])) (fun _ kt_ => XS.aloadN X0.here hx rfl (hb hby own_d2_1) rfl rfl kt_) ?_
  refine own_by (T' := s₁) (g' := (mkF m 3 #[.val (.ref x), .val (.ref b)] [(.int (0 : Int32)), (.ref b), (.ref x)])) (fun _ kt_ => XS.iconst X0.here hx rfl (hb hby own_d2_2) kt_) ?_
  refine own_by (T' := s₁) (g' := (mkF m 4 #[.val (.ref x), .val (.ref b)] [(.ref b), (.int (0 : Int32)), (.ref b), (.ref x)])) (fun _ kt_ => XS.aloadN X0.here hx rfl (hb hby own_d2_3) rfl rfl kt_) ?_
  obtain ⟨cl2, Ar2, q2, S2, M2, H2, G2⟩ := id Vb
  refine own_by (T' := s₁) (g' := (mkF m 5 #[.val (.ref x), .val (.ref b)] [(.int (2 : Int32)), (.int (0 : Int32)), (.ref b), (.ref x)])) (fun _ kt_ => X0.arraylength hx (by rw [e0]; exact Ar2.1) (State.isArrayOf_alike hZ.alike Ar2.2.1) (g := (mkF m 4 #[.val (.ref x), .val (.ref b)] [(.ref b), (.int (0 : Int32)), (.ref b), (.ref x)])) rfl rfl (hb hby own_d2_4) _ (by rw [len_of S2 M2]; exact kt_)) ?_
  refine own_by (T' := s₁) (g' := (mkF m 6 #[.val (.ref x), .val (.ref b)] [.null, (.int (2 : Int32)), (.int (0 : Int32)), (.ref b), (.ref x)])) (fun _ kt_ => XS.aconstNull X0.here hx rfl (hb hby own_d2_5) kt_) ?_
  have la3 : @LT.lt Nat instLTNat x h0.size := E_x.lt
  obtain ⟨_, _, ⟨T4, L4, k4, n4⟩, -, X4, ⟨Lc4, hQ4, l4, y4, z4⟩, st4⟩ := X0.specialBack hx (y := (⟨"java/lang/String", "<init>", "([CIILjava/lang/Void;)V"⟩ : MethodName)) rfl hown (mvT hZ (hw _ (List.mem_of_getElem? (i := 11) rfl))) (mvT hZ (hw _ (List.mem_of_getElem? (i := 12) rfl))) (mvT hZ (hw _ (List.mem_of_getElem? (i := 14) rfl))) (by decide) (backOf (W := 0) (rmS4 l Z a0 hw [] wC cC zC wO GS x b kC c0 c1 h0 n0 (by omega) O0 E_x (by omega) Fv Fc Vb hbx hp0 hp1) hZ (hw _ (List.mem_of_getElem? (i := 14) rfl)) (hw _ (List.mem_of_getElem? (i := 7) rfl)) (by decide) (by decide)) (g := (mkF m 6 #[.val (.ref x), .val (.ref b)] [.null, (.int (2 : Int32)), (.int (0 : Int32)), (.ref b), (.ref x)])) rfl (by rw [hml]; rfl) (Steps.refl _) (a := x) (argsL := [(.ref b), (.int (0 : Int32)), (.int (2 : Int32)), .null]) (rest := []) (lenOf own_pd_5 rfl) rfl (by show 2 * 0 + _ ≤ _; exact Nat.le_of_eq rfl) (hb hby own_d2_6) (fun _ _ => ⟨rfl, e0, (by decide : 0 + 1 ≤ _), (by decide : 0 + 2 ≤ _)⟩)
  dsimp only [Pt.U, Pt.locs, Pt.cells, Pt.slots] at X4 l4 y4 z4 st4 hQ4
  subst l4 y4 z4
  obtain ⟨rfl, N4q, K4⟩ := hQ4
  have N5 := Fr.app N0 N4q
  have zzK4 : h0.size ≤ T4.heap.size := K4.1
  have oo6 : Old Z n0 T4.heap := O0.keep K4 (allS (by omega : n0 ≤ x) all0)
  have kt7 : Keep h0 T4.heap [x] := KT0.trans K4 (allS (Or.inl (List.mem_of_getElem? (i := 0) rfl)) all0)
  refine own_by (T' := T4) (g' := (mkF m 9 #[.val (.ref x), .val (.ref b)] [])) (fun _ kt_ => st4.trans kt_) ?_
  obtain ⟨fs8, hr8, hrun8, hended8, hW8, hsame8⟩ := X4.leave (v := none) (fun _ => rfl)
  refine ⟨_, _, X4.returnOut hx Bd.returns (hb hby own_d2_9) hr8, hrun8, hended8, _, _, rfl, ?_, ⟨_, rfl⟩, hW8, hsame8.mono (by decide) (by decide)⟩
  show Q_rmS1 Z wC cC zC wO x b kC c0 c1 h0 n0 _ T4.heap _
  exact ⟨rfl, N5, kt7⟩
theorem own_pd_6 : parseMethodDescriptor "([C)V" = some ⟨[(.array .char)], none⟩ := by decide +kernel
theorem own_d1_0 : decode method_2_code 0 = .ok (.iconst 2, 1) := by decide +kernel
theorem own_d1_1 : decode method_2_code 1 = .ok (.newarray .char, 2) := by decide +kernel
theorem own_d1_3 : decode method_2_code 3 = .ok (.dup, 1) := by decide +kernel
theorem own_d1_4 : decode method_2_code 4 = .ok (.iconst 0, 1) := by decide +kernel
theorem own_d1_5 : decode method_2_code 5 = .ok (.iload_n 0, 1) := by decide +kernel
theorem own_d1_6 : decode method_2_code 6 = .ok (.sipush 255, 3) := by decide +kernel
theorem own_d1_9 : decode method_2_code 9 = .ok (.iand, 1) := by decide +kernel
theorem own_d1_10 : decode method_2_code 10 = .ok (.i2c, 1) := by decide +kernel
theorem own_d1_11 : decode method_2_code 11 = .ok (.castore, 1) := by decide +kernel
theorem own_d1_12 : decode method_2_code 12 = .ok (.dup, 1) := by decide +kernel
theorem own_d1_13 : decode method_2_code 13 = .ok (.iconst 1, 1) := by decide +kernel
theorem own_d1_14 : decode method_2_code 14 = .ok (.iload_n 0, 1) := by decide +kernel
theorem own_d1_15 : decode method_2_code 15 = .ok (.bipush 8, 2) := by decide +kernel
theorem own_d1_17 : decode method_2_code 17 = .ok (.iushr, 1) := by decide +kernel
theorem own_d1_18 : decode method_2_code 18 = .ok (.sipush 255, 3) := by decide +kernel
theorem own_d1_21 : decode method_2_code 21 = .ok (.iand, 1) := by decide +kernel
theorem own_d1_22 : decode method_2_code 22 = .ok (.i2c, 1) := by decide +kernel
theorem own_d1_23 : decode method_2_code 23 = .ok (.castore, 1) := by decide +kernel
theorem own_d1_24 : decode method_2_code 24 = .ok (.astore_n 1, 1) := by decide +kernel
theorem own_d1_25 : decode method_2_code 25 = .ok (.new 7, 3) := by decide +kernel
theorem own_d1_28 : decode method_2_code 28 = .ok (.dup, 1) := by decide +kernel
theorem own_d1_29 : decode method_2_code 29 = .ok (.aload_n 1, 1) := by decide +kernel
theorem own_d1_30 : decode method_2_code 30 = .ok (.invokespecial 9, 3) := by decide +kernel
theorem own_d1_33 : decode method_2_code 33 = .ok (.areturn, 1) := by decide +kernel
theorem own_pn_com_example_vestledger_vestledger_plan_PartOfCompanyStockPinLaw : plainName "com/example/vestledger/vestledger/plan/PartOfCompanyStockPinLaw" = true := by first | (simp [plainName, overriddenIn]; done) | decide +kernel
theorem own_ef_rmTwo (m : MethodId) (x0 : Int32) : entryFrame m #[(.int x0)] 2 = mkF m 0 #[.val (.int x0), .unset] [] := by first | (simp [entryFrame, mkF, argsToLocals, Value.category]; done) | rfl
def Q_rmTwo (Z : State) (wC : Addr) (cC : Cell) (zC : Int32) (wO : Addr) (n : Int32) (h0 : Heap) (n0 : Nat) (vv_ : Option Value) (hh_ : Heap) (LL_ : List Loc) : Prop := ∃ x : Addr, vv_ = some (.ref x) ∧ Fr n0 LL_ ∧ Keep h0 hh_ [] ∧ h0.size ≤ x ∧ Exa Z hh_ x "java/lang/String"
set_option maxRecDepth 65536 in
set_option maxHeartbeats 40000000 in
theorem rmTwo (l : Launch) (Z : State) (a0 : Array Value) (hw : ∀ d ∈ tables_1, d.before a0 Z = true) (ws : List Jvm.Cond) (wC : Addr) (cC : Cell) (zC : Int32) (wO : Addr) (GS : Glob Z wC cC zC wO) (n : Int32) (h0 : Heap) (n0 : Nat) (Z0 : n0 ≤ h0.size) (O0 : Old Z n0 h0) :
    MetFree l (⟨"com/example/vestledger/vestledger/plan/PartOfCompanyStockPinLaw", "two", "(I)Ljava/lang/String;"⟩ : MethodName) (head1 (Jvm.Cond.code (⟨"com/example/vestledger/vestledger/plan/PartOfCompanyStockPinLaw", "two", "(I)Ljava/lang/String;"⟩ : MethodName) method_2_code 2 (some (.object "java/lang/String")) :: ws) ({ frames := 4, cells := 3, slots := 8, locals := 66 } : Room)) (fun aa_ UU_ => aa_ = #[(.int n)] ∧ Z.Warmed39 UU_.vm ∧ UU_.heap = h0) (fun _ _ _ _ _ => True) (fun _ UU_ oo_ UV_ => ∃ vv_ LL_, oo_ = .returned vv_ ∧ Q_rmTwo Z wC cC zC wO n h0 n0 vv_ UV_.heap LL_ ∧ FrameEnd UU_ oo_ UV_ LL_ ({ frames := 4, cells := 3, slots := 8, locals := 66 } : Room).cells ({ frames := 4, cells := 3, slots := 8, locals := 66 } : Room).slots) := by
  refine MetFree.of_bodySF (plainFor_of_name own_pn_com_example_vestledger_vestledger_plan_PartOfCompanyStockPinLaw) hisR ?_
  intro p e s m args below meth c s₁ Bd hml0 hP hK
  obtain ⟨rfl, hZ, hh⟩ := hP
  have hx := Bd.exec
  have hby := Bd.bytes
  have hml : c.maxLocals = 2 := hml0
  have hown : s.vm.findClass "com/example/vestledger/vestledger/plan/PartOfCompanyStockPinLaw" = some m.cls := findClass_of_methodNamed Bd.named
  have hnm := (name_of_methodNamed Bd.named Bd.method).1
  have X0 : Stand p l e ({ frames := 4, cells := 3, slots := 8, locals := 66 } : Room) s m #[(.int n)] below meth c s₁ [] 0 0 := Stand.of_body Bd
  have e0 : s₁.heap = h0 := by rw [← hh, Bd.state]; rfl
  have N0 := Fr.nil n0
  have hn0 : Z.heap.size = n0 := O0.1
  have KT0 : Keep h0 h0 [] := Keep.refl _ _
  refine own_enter (Φ := fun oo_ UV_ => ∃ vv_ LL_, oo_ = .returned vv_ ∧ Q_rmTwo Z wC cC zC wO n h0 n0 vv_ UV_.heap LL_ ∧ FrameEnd s oo_ UV_ LL_ ({ frames := 4, cells := 3, slots := 8, locals := 66 } : Room).cells ({ frames := 4, cells := 3, slots := 8, locals := 66 } : Room).slots) (own_ef_rmTwo m n) ?_
  refine own_by (T' := s₁) (g' := (mkF m 1 #[.val (.int n), .unset] [(.int (2 : Int32))])) (fun _ kt_ => XS.iconst X0.here hx rfl (hb hby own_d1_0) kt_) ?_
  obtain ⟨T1, h1, k1, X1, e1, E1, A1, st1⟩ := newP X0 hx hZ (hw _ (List.mem_of_getElem? (i := 4) rfl)) e0 (g := (mkF m 1 #[.val (.int n), .unset] [(.int (2 : Int32))])) rfl (hb hby own_d1_1) rfl (by decide) (cap := 2) (by decide) (by decide) (by decide) (by decide)
  obtain ⟨b1, g1⟩ : ∃ z, z = h0.size := ⟨_, rfl⟩
  rw [← g1] at A1 st1
  have K2 : Keep h0 h1 [] := own_kext E1
  have zzK2 : h0.size ≤ h1.size := K2.1
  have oo3 : Old Z n0 h1 := O0.keep K2 all0
  have kt4 : Keep h0 h1 [] := KT0.trans K2 all0
  have lab1 : b1 < h1.size := A1.lt
  have f5 : Arv Z h1 b1 k1 .char (2 : Int32) [(.int (0 : Int32)), (.int (0 : Int32))] (.int (0 : Int32)) := (Arv.new A1 (by decide)).pad (pad_rep [] (.int (0 : Int32)) 2)
  refine own_by (T' := T1) (g' := (mkF m 3 #[.val (.int n), .unset] [(.ref b1)])) st1 ?_
  refine own_by (T' := T1) (g' := (mkF m 4 #[.val (.int n), .unset] [(.ref b1), (.ref b1)])) (fun _ kt_ => XS.dup X1.here hx rfl (hb hby own_d1_3) rfl rfl kt_) ?_
  refine own_by (T' := T1) (g' := (mkF m 5 #[.val (.int n), .unset] [(.int (0 : Int32)), (.ref b1), (.ref b1)])) (fun _ kt_ => XS.iconst X1.here hx rfl (hb hby own_d1_4) kt_) ?_
  refine own_by (T' := T1) (g' := (mkF m 6 #[.val (.int n), .unset] [(.int n), (.int (0 : Int32)), (.ref b1), (.ref b1)])) (fun _ kt_ => XS.iloadN X1.here hx rfl (hb hby own_d1_5) rfl kt_) ?_
  refine own_by (T' := T1) (g' := (mkF m 9 #[.val (.int n), .unset] [(.int (255 : Int32)), (.int n), (.int (0 : Int32)), (.ref b1), (.ref b1)])) (fun _ kt_ => XS.sipush X1.here hx rfl (hb hby own_d1_6) kt_) ?_
  refine own_by (T' := T1) (g' := (mkF m 10 #[.val (.int n), .unset] [(.int (n &&& (255 : Int32))), (.int (0 : Int32)), (.ref b1), (.ref b1)])) (fun _ kt_ => XS.iand X1.here hx rfl (hb hby own_d1_9) rfl kt_) ?_
  refine own_by (T' := T1) (g' := (mkF m 11 #[.val (.int n), .unset] [(.int (n &&& (255 : Int32)).toUInt32.toUInt16.toUInt32.toInt32), (.int (0 : Int32)), (.ref b1), (.ref b1)])) (fun _ kt_ => XS.i2c X1.here hx rfl (hb hby own_d1_10) rfl kt_) ?_
  obtain ⟨cl6, Ar6, q6, S6, M6, H6, G6⟩ := id f5
  have hin6 : ¬ ((0 : Int32) < 0 ∨ cl6.slots.size ≤ ((0 : Int32)).toNatClampNeg) := inb_of S6 ⟨by decide, by decide⟩
  obtain ⟨T6, h6, X6, e6, W6, st6⟩ := stC X1 hx hZ e1 Ar6 (j := (0 : Int32)) hin6 (g := (mkF m 11 #[.val (.int n), .unset] [(.int (n &&& (255 : Int32)).toUInt32.toUInt16.toUInt32.toInt32), (.int (0 : Int32)), (.ref b1), (.ref b1)])) rfl rfl (hb hby own_d1_11)
  rw [show nar .char ((n &&& (255 : Int32)).toUInt32.toUInt16.toUInt32.toInt32) = (n &&& (255 : Int32)).toUInt32.toUInt16.toUInt32.toInt32 from own_narC _] at W6
  have K7 : Keep h1 h6 [b1] := Keep.of_wr W6
  have zzK7 : h1.size ≤ h6.size := K7.1
  have oo8 : Old Z n0 h6 := oo3.keep K7 (allS (by omega : n0 ≤ b1) all0)
  have kt9 : Keep h0 h6 [] := kt4.trans K7 (allS (Or.inr (by omega : h0.size ≤ b1)) all0)
  have f10 : Arv Z h6 b1 k1 .char (2 : Int32) [(.int (n &&& (255 : Int32)).toUInt32.toUInt16.toUInt32.toInt32), (.int (0 : Int32))] (.int (0 : Int32)) := Arv.set Ar6 q6 S6 M6 H6 G6 (fits_nar_char _) W6 0 rfl (Nat.le_of_ble_eq_true rfl)
  have N11 := Fr.snoc X6 N0 (by omega : n0 ≤ b1)
  refine own_by (T' := T6) (g' := (mkF m 12 #[.val (.int n), .unset] [(.ref b1)])) st6 ?_
  refine own_by (T' := T6) (g' := (mkF m 13 #[.val (.int n), .unset] [(.ref b1), (.ref b1)])) (fun _ kt_ => XS.dup X6.here hx rfl (hb hby own_d1_12) rfl rfl kt_) ?_
  refine own_by (T' := T6) (g' := (mkF m 14 #[.val (.int n), .unset] [(.int (1 : Int32)), (.ref b1), (.ref b1)])) (fun _ kt_ => XS.iconst X6.here hx rfl (hb hby own_d1_13) kt_) ?_
  refine own_by (T' := T6) (g' := (mkF m 15 #[.val (.int n), .unset] [(.int n), (.int (1 : Int32)), (.ref b1), (.ref b1)])) (fun _ kt_ => XS.iloadN X6.here hx rfl (hb hby own_d1_14) rfl kt_) ?_
  refine own_by (T' := T6) (g' := (mkF m 17 #[.val (.int n), .unset] [(.int (8 : Int32)), (.int n), (.int (1 : Int32)), (.ref b1), (.ref b1)])) (fun _ kt_ => XS.bipush X6.here hx rfl (hb hby own_d1_15) kt_) ?_
  refine own_by (T' := T6) (g' := (mkF m 18 #[.val (.int n), .unset] [(.int ((n.toUInt32 >>> ((8 : Int32) &&& 31).toUInt32).toInt32)), (.int (1 : Int32)), (.ref b1), (.ref b1)])) (fun _ kt_ => XS.iushr X6.here hx rfl (hb hby own_d1_17) rfl kt_) ?_
  refine own_by (T' := T6) (g' := (mkF m 21 #[.val (.int n), .unset] [(.int (255 : Int32)), (.int ((n.toUInt32 >>> ((8 : Int32) &&& 31).toUInt32).toInt32)), (.int (1 : Int32)), (.ref b1), (.ref b1)])) (fun _ kt_ => XS.sipush X6.here hx rfl (hb hby own_d1_18) kt_) ?_
  refine own_by (T' := T6) (g' := (mkF m 22 #[.val (.int n), .unset] [(.int (((n.toUInt32 >>> ((8 : Int32) &&& 31).toUInt32).toInt32) &&& (255 : Int32))), (.int (1 : Int32)), (.ref b1), (.ref b1)])) (fun _ kt_ => XS.iand X6.here hx rfl (hb hby own_d1_21) rfl kt_) ?_
  refine own_by (T' := T6) (g' := (mkF m 23 #[.val (.int n), .unset] [(.int (((n.toUInt32 >>> ((8 : Int32) &&& 31).toUInt32).toInt32) &&& (255 : Int32)).toUInt32.toUInt16.toUInt32.toInt32), (.int (1 : Int32)), (.ref b1), (.ref b1)])) (fun _ kt_ => XS.i2c X6.here hx rfl (hb hby own_d1_22) rfl kt_) ?_
  obtain ⟨cl12, Ar12, q12, S12, M12, H12, G12⟩ := id f10
  have hin12 : ¬ ((1 : Int32) < 0 ∨ cl12.slots.size ≤ ((1 : Int32)).toNatClampNeg) := inb_of S12 ⟨by decide, by decide⟩
  obtain ⟨T12, h12, X12, e12, W12, st12⟩ := stC X6 hx hZ e6 Ar12 (j := (1 : Int32)) hin12 (g := (mkF m 23 #[.val (.int n), .unset] [(.int (((n.toUInt32 >>> ((8 : Int32) &&& 31).toUInt32).toInt32) &&& (255 : Int32)).toUInt32.toUInt16.toUInt32.toInt32), (.int (1 : Int32)), (.ref b1), (.ref b1)])) rfl rfl (hb hby own_d1_23)
  rw [show nar .char ((((n.toUInt32 >>> ((8 : Int32) &&& 31).toUInt32).toInt32) &&& (255 : Int32)).toUInt32.toUInt16.toUInt32.toInt32) = (((n.toUInt32 >>> ((8 : Int32) &&& 31).toUInt32).toInt32) &&& (255 : Int32)).toUInt32.toUInt16.toUInt32.toInt32 from own_narC _] at W12
  have K13 : Keep h6 h12 [b1] := Keep.of_wr W12
  have zzK13 : h6.size ≤ h12.size := K13.1
  have oo14 : Old Z n0 h12 := oo8.keep K13 (allS (by omega : n0 ≤ b1) all0)
  have kt15 : Keep h0 h12 [] := kt9.trans K13 (allS (Or.inr (by omega : h0.size ≤ b1)) all0)
  have f16 : Arv Z h12 b1 k1 .char (2 : Int32) [(.int (n &&& (255 : Int32)).toUInt32.toUInt16.toUInt32.toInt32), (.int (((n.toUInt32 >>> ((8 : Int32) &&& 31).toUInt32).toInt32) &&& (255 : Int32)).toUInt32.toUInt16.toUInt32.toInt32)] (.int (0 : Int32)) := Arv.set Ar12 q12 S12 M12 H12 G12 (fits_nar_char _) W12 1 rfl (Nat.le_of_ble_eq_true rfl)
  have N17 := Fr.snoc X12 N11 (by omega : n0 ≤ b1)
  refine own_by (T' := T12) (g' := (mkF m 24 #[.val (.int n), .unset] [(.ref b1)])) st12 ?_
  refine own_by (T' := T12) (g' := (mkF m 25 #[.val (.int n), .val (.ref b1)] [])) (fun _ kt_ => XS.astoreN X12.here hx rfl (hb hby own_d1_24) rfl rfl (l' := #[.val (.int n), .val (.ref b1)]) rfl kt_) ?_
  obtain ⟨T18, h18, X18, e18, E18, A18, D18, -, st18⟩ := newO X12 hx hZ hown (hw _ (List.mem_of_getElem? (i := 5) rfl)) (hw _ (List.mem_of_getElem? (i := 6) rfl)) (hw _ (List.mem_of_getElem? (i := 7) rfl)) e12 (g := (mkF m 25 #[.val (.int n), .val (.ref b1)] [])) rfl (hb hby own_d1_25) (by decide) (by decide)
  obtain ⟨b18, g18⟩ : ∃ z, z = h12.size := ⟨_, rfl⟩
  rw [← g18] at A18 D18 st18
  have K19 : Keep h12 h18 [] := own_kext E18
  have zzK19 : h12.size ≤ h18.size := K19.1
  have oo20 : Old Z n0 h18 := oo14.keep K19 all0
  have kt21 : Keep h0 h18 [] := kt15.trans K19 all0
  have lab18 : b18 < h18.size := A18.lt
  have f22 : Fld Z h18 b18 "java/lang/String" "coder" "B" (.int (0 : Int32)) := D18 (Or.inr (hw _ (List.mem_of_getElem? (i := 31) rfl))) (ty := .byte) (by decide)
  have f23 : Fld Z h18 b18 "java/lang/String" "value" "[B" .null := D18 (Or.inr (hw _ (List.mem_of_getElem? (i := 33) rfl))) (ty := (.array .byte)) (by decide)
  refine own_by (T' := T18) (g' := (mkF m 28 #[.val (.int n), .val (.ref b1)] [(.ref b18)])) st18 ?_
  refine own_by (T' := T18) (g' := (mkF m 29 #[.val (.int n), .val (.ref b1)] [(.ref b18), (.ref b18)])) (fun _ kt_ => XS.dup X18.here hx rfl (hb hby own_d1_28) rfl rfl kt_) ?_
  refine own_by (T' := T18) (g' := (mkF m 30 #[.val (.int n), .val (.ref b1)] [(.ref b1), (.ref b18), (.ref b18)])) (fun _ kt_ => XS.aloadN X18.here hx rfl (hb hby own_d1_29) rfl rfl kt_) ?_
  have f24 : Arv Z h18 b1 k1 .char (2 : Int32) [(.int (n &&& (255 : Int32)).toUInt32.toUInt16.toUInt32.toInt32), (.int (((n.toUInt32 >>> ((8 : Int32) &&& 31).toUInt32).toInt32) &&& (255 : Int32)).toUInt32.toUInt16.toUInt32.toInt32)] (.int (0 : Int32)) := (f16.keep K19 nin0)
  have ne25 : @Ne Nat b1 b18 := by omega
  obtain ⟨_, _, ⟨T26, L26, k26, n26⟩, -, X26, ⟨Lc26, hQ26, l26, y26, z26⟩, st26⟩ := X18.specialBack hx (y := (⟨"java/lang/String", "<init>", "([C)V"⟩ : MethodName)) rfl hown (mvT hZ (hw _ (List.mem_of_getElem? (i := 8) rfl))) (mvT hZ (hw _ (List.mem_of_getElem? (i := 9) rfl))) (mvT hZ (hw _ (List.mem_of_getElem? (i := 10) rfl))) (by decide) (backOf (W := 1) (rmS1 l Z a0 hw [] wC cC zC wO GS b18 b1 k1 ((n &&& (255 : Int32)).toUInt32.toUInt16.toUInt32.toInt32) ((((n.toUInt32 >>> ((8 : Int32) &&& 31).toUInt32).toInt32) &&& (255 : Int32)).toUInt32.toUInt16.toUInt32.toInt32) h18 n0 (by omega) oo20 A18 (by omega) f23 f22 f24 ne25 (own_le255 _) (own_le255 _)) hZ (hw _ (List.mem_of_getElem? (i := 10) rfl)) (hw _ (List.mem_of_getElem? (i := 7) rfl)) (by decide) (by decide)) (g := (mkF m 30 #[.val (.int n), .val (.ref b1)] [(.ref b1), (.ref b18), (.ref b18)])) rfl (by rw [hml]; rfl) (Steps.refl _) (a := b18) (argsL := [(.ref b1)]) (rest := [(.ref b18)]) (lenOf own_pd_6 rfl) rfl (by show 2 * 0 + _ ≤ _; exact Nat.le_of_eq rfl) (hb hby own_d1_30) (fun _ _ => ⟨rfl, e18, (by decide : 2 + 1 ≤ _), (by decide : 6 + 2 ≤ _)⟩)
  dsimp only [Pt.U, Pt.locs, Pt.cells, Pt.slots] at X26 l26 y26 z26 st26 hQ26
  subst l26 y26 z26
  obtain ⟨rfl, N26q, K26⟩ := hQ26
  have N27 := Fr.app N17 N26q
  have zzK26 : h18.size ≤ T26.heap.size := K26.1
  have oo28 : Old Z n0 T26.heap := oo20.keep K26 (allS (by omega : n0 ≤ b18) all0)
  have kt29 : Keep h0 T26.heap [] := kt21.trans K26 (allS (Or.inr (by omega : h0.size ≤ b18)) all0)
  refine own_by (T' := T26) (g' := (mkF m 33 #[.val (.int n), .val (.ref b1)] [(.ref b18)])) (fun _ kt_ => st26.trans kt_) ?_
  have f30 : Exa Z T26.heap b18 "java/lang/String" := (A18.keep K26)
  obtain ⟨fs31, hr31, hrun31, hended31, hW31, hsame31⟩ := X26.leave (v := some (.ref b18)) (fun h => by rw [Bd.returns] at h; cases h)
  refine ⟨_, _, retOut X26 hx (t := (.object "java/lang/String")) Bd.returns rfl (Or.inr (Or.inr (Or.inr (Or.inr ⟨rfl, rfl, rfl⟩)))) (hb hby own_d1_33) hr31, hrun31, hended31, _, _, rfl, ?_, ⟨_, rfl⟩, hW31, hsame31.mono (by decide) (by decide)⟩
  show Q_rmTwo Z wC cC zC wO n h0 n0 _ T26.heap _
  exact ⟨b18, rfl, N27, kt29, (by omega), f30⟩
theorem own_d8_0 : decode jdk_32_method_1_code 0 = .ok (.getstatic 1, 3) := by decide +kernel
theorem own_d8_3 : decode jdk_32_method_1_code 3 = .ok (.astore_n 0, 1) := by decide +kernel
theorem own_d8_4 : decode jdk_32_method_1_code 4 = .ok (.aload_n 0, 1) := by decide +kernel
theorem own_d8_5 : decode jdk_32_method_1_code 5 = .ok (.areturn, 1) := by decide +kernel
theorem own_pn_java_util_Optional : plainName "java/util/Optional" = true := by first | (simp [plainName, overriddenIn]; done) | decide +kernel
theorem own_ef_rmOE (m : MethodId)  : entryFrame m #[] 1 = mkF m 0 #[.unset] [] := by first | (simp [entryFrame, mkF, argsToLocals, Value.category]; done) | rfl
def Q_rmOE (Z : State) (wC : Addr) (cC : Cell) (zC : Int32) (wO : Addr) (h0 : Heap) (n0 : Nat) (vv_ : Option Value) (hh_ : Heap) (LL_ : List Loc) : Prop := vv_ = some (.ref wO) ∧ Fr n0 LL_ ∧ hh_ = h0
set_option maxRecDepth 65536 in
set_option maxHeartbeats 40000000 in
theorem rmOE (l : Launch) (Z : State) (a0 : Array Value) (hw : ∀ d ∈ tables_1, d.before a0 Z = true) (ws : List Jvm.Cond) (wC : Addr) (cC : Cell) (zC : Int32) (wO : Addr) (GS : Glob Z wC cC zC wO)  (h0 : Heap) (n0 : Nat) (Z0 : n0 ≤ h0.size) (O0 : Old Z n0 h0) :
    MetFree l (⟨"java/util/Optional", "empty", "()Ljava/util/Optional;"⟩ : MethodName) (head1 (Jvm.Cond.code (⟨"java/util/Optional", "empty", "()Ljava/util/Optional;"⟩ : MethodName) jdk_32_method_1_code 1 (some (.object "java/util/Optional")) :: ws) ({ frames := 0, cells := 0, slots := 0, locals := 0 } : Room)) (fun aa_ UU_ => aa_ = #[] ∧ Z.Warmed39 UU_.vm ∧ UU_.heap = h0) (fun _ _ _ _ _ => True) (fun _ UU_ oo_ UV_ => ∃ vv_ LL_, oo_ = .returned vv_ ∧ Q_rmOE Z wC cC zC wO h0 n0 vv_ UV_.heap LL_ ∧ FrameEnd UU_ oo_ UV_ LL_ ({ frames := 0, cells := 0, slots := 0, locals := 0 } : Room).cells ({ frames := 0, cells := 0, slots := 0, locals := 0 } : Room).slots) := by
  refine MetFree.of_bodySF (plainFor_of_name own_pn_java_util_Optional) hisR ?_
  intro p e s m args below meth c s₁ Bd hml0 hP hK
  obtain ⟨rfl, hZ, hh⟩ := hP
  have hx := Bd.exec
  have hby := Bd.bytes
  have hml : c.maxLocals = 1 := hml0
  have hown : s.vm.findClass "java/util/Optional" = some m.cls := findClass_of_methodNamed Bd.named
  have hnm := (name_of_methodNamed Bd.named Bd.method).1
  have X0 : Stand p l e ({ frames := 0, cells := 0, slots := 0, locals := 0 } : Room) s m #[] below meth c s₁ [] 0 0 := Stand.of_body Bd
  have e0 : s₁.heap = h0 := by rw [← hh, Bd.state]; rfl
  have N0 := Fr.nil n0
  have hn0 : Z.heap.size = n0 := O0.1
  have KT0 : Keep h0 h0 [] := Keep.refl _ _
  refine own_enter (Φ := fun oo_ UV_ => ∃ vv_ LL_, oo_ = .returned vv_ ∧ Q_rmOE Z wC cC zC wO h0 n0 vv_ UV_.heap LL_ ∧ FrameEnd s oo_ UV_ LL_ ({ frames := 0, cells := 0, slots := 0, locals := 0 } : Room).cells ({ frames := 0, cells := 0, slots := 0, locals := 0 } : Room).slots) (own_ef_rmOE m ) ?_
  have f1 := GS.2.2.2.2.2.1.ext O0.2
  obtain ⟨T2, X2, e2, st2⟩ := getS2 X0 hx hZ hown (host := "") (Or.inl (hw _ (List.mem_of_getElem? (i := 41) rfl))) Via.refl e0 f1 (g := (mkF m 0 #[.unset] [])) rfl (hb hby own_d8_0)
  refine own_by (T' := T2) (g' := (mkF m 3 #[.unset] [(.ref wO)])) st2 ?_
  refine own_by (T' := T2) (g' := (mkF m 4 #[.val (.ref wO)] [])) (fun _ kt_ => XS.astoreN X2.here hx rfl (hb hby own_d8_3) rfl rfl (l' := #[.val (.ref wO)]) rfl kt_) ?_
  refine own_by (T' := T2) (g' := (mkF m 5 #[.val (.ref wO)] [(.ref wO)])) (fun _ kt_ => XS.aloadN X2.here hx rfl (hb hby own_d8_4) rfl rfl kt_) ?_
  obtain ⟨fs3, hr3, hrun3, hended3, hW3, hsame3⟩ := X2.leave (v := some (.ref wO)) (fun h => by rw [Bd.returns] at h; cases h)
  refine ⟨_, _, retOut X2 hx (t := (.object "java/util/Optional")) Bd.returns rfl (Or.inr (Or.inr (Or.inr (Or.inr ⟨rfl, rfl, rfl⟩)))) (hb hby own_d8_5) hr3, hrun3, hended3, _, _, rfl, ?_, ⟨_, rfl⟩, hW3, hsame3.mono (by decide) (by decide)⟩
  show Q_rmOE Z wC cC zC wO h0 n0 _ T2.heap _
  exact ⟨rfl, N0, e2⟩
theorem own_d13_0 : decode jdk_31_method_10_code 0 = .ok (.aload_n 0, 1) := by decide +kernel
theorem own_d13_1 : decode jdk_31_method_10_code 1 = .ok (.ifnonnull 11, 3) := by decide +kernel
theorem own_d13_12 : decode jdk_31_method_10_code 12 = .ok (.aload_n 0, 1) := by decide +kernel
theorem own_d13_13 : decode jdk_31_method_10_code 13 = .ok (.areturn, 1) := by decide +kernel
theorem own_pn_java_util_Objects : plainName "java/util/Objects" = true := by first | (simp [plainName, overriddenIn]; done) | decide +kernel
theorem own_ef_rmRnn (m : MethodId) (x0 : Addr) : entryFrame m #[(.ref x0)] 1 = mkF m 0 #[.val (.ref x0)] [] := by first | (simp [entryFrame, mkF, argsToLocals, Value.category]; done) | rfl
def Q_rmRnn (Z : State) (wC : Addr) (cC : Cell) (zC : Int32) (wO : Addr) (a : Addr) (h0 : Heap) (n0 : Nat) (vv_ : Option Value) (hh_ : Heap) (LL_ : List Loc) : Prop := vv_ = some (.ref a) ∧ Fr n0 LL_ ∧ hh_ = h0
set_option maxRecDepth 65536 in
set_option maxHeartbeats 40000000 in
theorem rmRnn (l : Launch) (Z : State) (a0 : Array Value) (hw : ∀ d ∈ tables_1, d.before a0 Z = true) (ws : List Jvm.Cond) (wC : Addr) (cC : Cell) (zC : Int32) (wO : Addr) (GS : Glob Z wC cC zC wO) (a : Addr) (h0 : Heap) (n0 : Nat) (Z0 : n0 ≤ h0.size) (O0 : Old Z n0 h0) :
    MetFree l (⟨"java/util/Objects", "requireNonNull", "(Ljava/lang/Object;)Ljava/lang/Object;"⟩ : MethodName) (head1 (Jvm.Cond.code (⟨"java/util/Objects", "requireNonNull", "(Ljava/lang/Object;)Ljava/lang/Object;"⟩ : MethodName) jdk_31_method_10_code 1 (some (.object "java/lang/Object")) :: ws) ({ frames := 0, cells := 0, slots := 0, locals := 0 } : Room)) (fun aa_ UU_ => aa_ = #[(.ref a)] ∧ Z.Warmed39 UU_.vm ∧ UU_.heap = h0) (fun _ _ _ _ _ => True) (fun _ UU_ oo_ UV_ => ∃ vv_ LL_, oo_ = .returned vv_ ∧ Q_rmRnn Z wC cC zC wO a h0 n0 vv_ UV_.heap LL_ ∧ FrameEnd UU_ oo_ UV_ LL_ ({ frames := 0, cells := 0, slots := 0, locals := 0 } : Room).cells ({ frames := 0, cells := 0, slots := 0, locals := 0 } : Room).slots) := by
  refine MetFree.of_bodySF (plainFor_of_name own_pn_java_util_Objects) hisR ?_
  intro p e s m args below meth c s₁ Bd hml0 hP hK
  obtain ⟨rfl, hZ, hh⟩ := hP
  have hx := Bd.exec
  have hby := Bd.bytes
  have hml : c.maxLocals = 1 := hml0
  have hown : s.vm.findClass "java/util/Objects" = some m.cls := findClass_of_methodNamed Bd.named
  have hnm := (name_of_methodNamed Bd.named Bd.method).1
  have X0 : Stand p l e ({ frames := 0, cells := 0, slots := 0, locals := 0 } : Room) s m #[(.ref a)] below meth c s₁ [] 0 0 := Stand.of_body Bd
  have e0 : s₁.heap = h0 := by rw [← hh, Bd.state]; rfl
  have N0 := Fr.nil n0
  have hn0 : Z.heap.size = n0 := O0.1
  have KT0 : Keep h0 h0 [] := Keep.refl _ _
  refine own_enter (Φ := fun oo_ UV_ => ∃ vv_ LL_, oo_ = .returned vv_ ∧ Q_rmRnn Z wC cC zC wO a h0 n0 vv_ UV_.heap LL_ ∧ FrameEnd s oo_ UV_ LL_ ({ frames := 0, cells := 0, slots := 0, locals := 0 } : Room).cells ({ frames := 0, cells := 0, slots := 0, locals := 0 } : Room).slots) (own_ef_rmRnn m a) ?_
  refine own_by (T' := s₁) (g' := (mkF m 1 #[.val (.ref a)] [(.ref a)])) (fun _ kt_ => XS.aloadN X0.here hx rfl (hb hby own_d13_0) rfl rfl kt_) ?_
  refine own_by (T' := s₁) (g' := (mkF m 12 #[.val (.ref a)] [])) (fun _ kt_ => XS.ifnonnullYes X0.here hx rfl (pc0 := 1) (pc' := 12) rfl (hb hby own_d13_1) rfl (by decide) (by decide) kt_) ?_
  refine own_by (T' := s₁) (g' := (mkF m 13 #[.val (.ref a)] [(.ref a)])) (fun _ kt_ => XS.aloadN X0.here hx rfl (hb hby own_d13_12) rfl rfl kt_) ?_
  obtain ⟨fs1, hr1, hrun1, hended1, hW1, hsame1⟩ := X0.leave (v := some (.ref a)) (fun h => by rw [Bd.returns] at h; cases h)
  refine ⟨_, _, retOut X0 hx (t := (.object "java/lang/Object")) Bd.returns rfl (Or.inr (Or.inr (Or.inr (Or.inr ⟨rfl, rfl, rfl⟩)))) (hb hby own_d13_13) hr1, hrun1, hended1, _, _, rfl, ?_, ⟨_, rfl⟩, hW1, hsame1.mono (by decide) (by decide)⟩
  show Q_rmRnn Z wC cC zC wO a h0 n0 _ s₁.heap _
  exact ⟨rfl, N0, e0⟩
theorem own_d14_0 : decode jdk_32_method_2_code 0 = .ok (.aload_n 0, 1) := by decide +kernel
theorem own_d14_1 : decode jdk_32_method_2_code 1 = .ok (.invokespecial 7, 3) := by decide +kernel
theorem own_d14_4 : decode jdk_32_method_2_code 4 = .ok (.aload_n 0, 1) := by decide +kernel
theorem own_d14_5 : decode jdk_32_method_2_code 5 = .ok (.aload_n 1, 1) := by decide +kernel
theorem own_d14_6 : decode jdk_32_method_2_code 6 = .ok (.putfield 13, 3) := by decide +kernel
theorem own_d14_9 : decode jdk_32_method_2_code 9 = .ok (.return_, 1) := by decide +kernel
theorem own_ef_rmOI (m : MethodId) (x0 : Addr) (x1 : Addr) : entryFrame m #[(.ref x0), (.ref x1)] 2 = mkF m 0 #[.val (.ref x0), .val (.ref x1)] [] := by first | (simp [entryFrame, mkF, argsToLocals, Value.category]; done) | rfl
def Q_rmOI (Z : State) (wC : Addr) (cC : Cell) (zC : Int32) (wO : Addr) (a : Addr) (ob : Addr) (h0 : Heap) (n0 : Nat) (vv_ : Option Value) (hh_ : Heap) (LL_ : List Loc) : Prop := vv_ = none ∧ Fr n0 LL_ ∧ Keep h0 hh_ [a] ∧ Fld Z hh_ a "java/util/Optional" "value" "Ljava/lang/Object;" (.ref ob)
set_option maxRecDepth 65536 in
set_option maxHeartbeats 40000000 in
theorem rmOI (l : Launch) (Z : State) (a0 : Array Value) (hw : ∀ d ∈ tables_1, d.before a0 Z = true) (ws : List Jvm.Cond) (wC : Addr) (cC : Cell) (zC : Int32) (wO : Addr) (GS : Glob Z wC cC zC wO) (a : Addr) (ob : Addr) (h0 : Heap) (n0 : Nat) (Z0 : n0 ≤ h0.size) (O0 : Old Z n0 h0) (E_a : Exa Z h0 a "java/util/Optional") (g_a : n0 ≤ a) (F_value : Fld Z h0 a "java/util/Optional" "value" "Ljava/lang/Object;" .null) :
    MetFree l (⟨"java/util/Optional", "<init>", "(Ljava/lang/Object;)V"⟩ : MethodName) (head1 (Jvm.Cond.code (⟨"java/util/Optional", "<init>", "(Ljava/lang/Object;)V"⟩ : MethodName) jdk_32_method_2_code 2 none :: ws) ({ frames := 1, cells := 0, slots := 0, locals := 12 } : Room)) (fun aa_ UU_ => aa_ = #[(.ref a), (.ref ob)] ∧ Z.Warmed39 UU_.vm ∧ UU_.heap = h0) (fun _ _ _ _ _ => True) (fun _ UU_ oo_ UV_ => ∃ vv_ LL_, oo_ = .returned vv_ ∧ Q_rmOI Z wC cC zC wO a ob h0 n0 vv_ UV_.heap LL_ ∧ FrameEnd UU_ oo_ UV_ LL_ ({ frames := 1, cells := 0, slots := 0, locals := 12 } : Room).cells ({ frames := 1, cells := 0, slots := 0, locals := 12 } : Room).slots) := by
  refine MetFree.of_bodySF (plainFor_of_name own_pn_java_util_Optional) hisR ?_
  intro p e s m args below meth c s₁ Bd hml0 hP hK
  obtain ⟨rfl, hZ, hh⟩ := hP
  have hx := Bd.exec
  have hby := Bd.bytes
  have hml : c.maxLocals = 2 := hml0
  have hown : s.vm.findClass "java/util/Optional" = some m.cls := findClass_of_methodNamed Bd.named
  have hnm := (name_of_methodNamed Bd.named Bd.method).1
  have X0 : Stand p l e ({ frames := 1, cells := 0, slots := 0, locals := 12 } : Room) s m #[(.ref a), (.ref ob)] below meth c s₁ [] 0 0 := Stand.of_body Bd
  have e0 : s₁.heap = h0 := by rw [← hh, Bd.state]; rfl
  have N0 := Fr.nil n0
  have hn0 : Z.heap.size = n0 := O0.1
  have KT0 : Keep h0 h0 [a] := Keep.refl _ _
  refine own_enter (Φ := fun oo_ UV_ => ∃ vv_ LL_, oo_ = .returned vv_ ∧ Q_rmOI Z wC cC zC wO a ob h0 n0 vv_ UV_.heap LL_ ∧ FrameEnd s oo_ UV_ LL_ ({ frames := 1, cells := 0, slots := 0, locals := 12 } : Room).cells ({ frames := 1, cells := 0, slots := 0, locals := 12 } : Room).slots) (own_ef_rmOI m a ob) ?_
  refine own_by (T' := s₁) (g' := (mkF m 1 #[.val (.ref a), .val (.ref ob)] [(.ref a)])) (fun _ kt_ => XS.aloadN X0.here hx rfl (hb hby own_d14_0) rfl rfl kt_) ?_
  obtain ⟨T1, X1, e1, st1⟩ := initO X0 hx hZ hown (hw _ (List.mem_of_getElem? (i := 83) rfl)) (hw _ (List.mem_of_getElem? (i := 16) rfl)) (hw _ (List.mem_of_getElem? (i := 17) rfl)) e0 (g := (mkF m 1 #[.val (.ref a), .val (.ref ob)] [(.ref a)])) rfl (by rw [hml]; rfl) rfl (hb hby own_d14_1) (by decide) (W := 0) (by show 2 * 0 + _ ≤ _; exact Nat.le_of_eq rfl) (by decide)
  refine own_by (T' := T1) (g' := (mkF m 4 #[.val (.ref a), .val (.ref ob)] [])) st1 ?_
  refine own_by (T' := T1) (g' := (mkF m 5 #[.val (.ref a), .val (.ref ob)] [(.ref a)])) (fun _ kt_ => XS.aloadN X1.here hx rfl (hb hby own_d14_4) rfl rfl kt_) ?_
  refine own_by (T' := T1) (g' := (mkF m 6 #[.val (.ref a), .val (.ref ob)] [(.ref ob), (.ref a)])) (fun _ kt_ => XS.aloadN X1.here hx rfl (hb hby own_d14_5) rfl rfl kt_) ?_
  obtain ⟨T2, h2, X2, e2, W2, st2⟩ := putF X1 hx hZ hown (host := "") (Or.inl (hw _ (List.mem_of_getElem? (i := 84) rfl))) Via.refl e1 F_value E_a (Or.inr ⟨(hw _ (List.mem_of_getElem? (i := 85) rfl)), rfl, hnm⟩) (hw _ (List.mem_of_getElem? (i := 74) rfl)) (ty := (.object "java/lang/Object")) (by decide) rfl rfl (g := (mkF m 6 #[.val (.ref a), .val (.ref ob)] [(.ref ob), (.ref a)])) rfl rfl (hb hby own_d14_6)
  have K3 : Keep h0 h2 [a] := Keep.of_wr W2
  have zzK3 : h0.size ≤ h2.size := K3.1
  have oo4 : Old Z n0 h2 := O0.keep K3 (allS (by omega : n0 ≤ a) all0)
  have kt5 : Keep h0 h2 [a] := KT0.trans K3 (allS (Or.inl (List.mem_of_getElem? (i := 0) rfl)) all0)
  have f6 : Fld Z h2 a "java/util/Optional" "value" "Ljava/lang/Object;" (.ref ob) := F_value.same W2
  have N7 := Fr.snoc X2 N0 (by omega : n0 ≤ a)
  refine own_by (T' := T2) (g' := (mkF m 9 #[.val (.ref a), .val (.ref ob)] [])) st2 ?_
  obtain ⟨fs8, hr8, hrun8, hended8, hW8, hsame8⟩ := X2.leave (v := none) (fun _ => rfl)
  refine ⟨_, _, X2.returnOut hx Bd.returns (hb hby own_d14_9) hr8, hrun8, hended8, _, _, rfl, ?_, ⟨_, rfl⟩, hW8, hsame8.mono (by decide) (by decide)⟩
  show Q_rmOI Z wC cC zC wO a ob h0 n0 _ T2.heap _
  rw [e2]
  exact ⟨rfl, N7, kt5, f6⟩
theorem own_pd_7 : parseMethodDescriptor "(Ljava/lang/Object;)Ljava/lang/Object;" = some ⟨[(.object "java/lang/Object")], some (.object "java/lang/Object")⟩ := by decide +kernel
theorem own_pd_8 : parseMethodDescriptor "(Ljava/lang/Object;)V" = some ⟨[(.object "java/lang/Object")], none⟩ := by decide +kernel
theorem own_d12_0 : decode jdk_32_method_3_code 0 = .ok (.new 2, 3) := by decide +kernel
theorem own_d12_3 : decode jdk_32_method_3_code 3 = .ok (.dup, 1) := by decide +kernel
theorem own_d12_4 : decode jdk_32_method_3_code 4 = .ok (.aload_n 0, 1) := by decide +kernel
theorem own_d12_5 : decode jdk_32_method_3_code 5 = .ok (.invokestatic 17, 3) := by decide +kernel
theorem own_d12_8 : decode jdk_32_method_3_code 8 = .ok (.invokespecial 23, 3) := by decide +kernel
theorem own_d12_11 : decode jdk_32_method_3_code 11 = .ok (.areturn, 1) := by decide +kernel
theorem own_ef_rmOf (m : MethodId) (x0 : Addr) : entryFrame m #[(.ref x0)] 1 = mkF m 0 #[.val (.ref x0)] [] := by first | (simp [entryFrame, mkF, argsToLocals, Value.category]; done) | rfl
def Q_rmOf (Z : State) (wC : Addr) (cC : Cell) (zC : Int32) (wO : Addr) (ob : Addr) (h0 : Heap) (n0 : Nat) (vv_ : Option Value) (hh_ : Heap) (LL_ : List Loc) : Prop := ∃ b : Addr, vv_ = some (.ref b) ∧ Fr n0 LL_ ∧ Keep h0 hh_ [] ∧ h0.size ≤ b ∧ Exa Z hh_ b "java/util/Optional" ∧ Fld Z hh_ b "java/util/Optional" "value" "Ljava/lang/Object;" (.ref ob)
set_option maxRecDepth 65536 in
set_option maxHeartbeats 40000000 in
theorem rmOf (l : Launch) (Z : State) (a0 : Array Value) (hw : ∀ d ∈ tables_1, d.before a0 Z = true) (ws : List Jvm.Cond) (wC : Addr) (cC : Cell) (zC : Int32) (wO : Addr) (GS : Glob Z wC cC zC wO) (ob : Addr) (h0 : Heap) (n0 : Nat) (Z0 : n0 ≤ h0.size) (O0 : Old Z n0 h0) :
    MetFree l (⟨"java/util/Optional", "of", "(Ljava/lang/Object;)Ljava/util/Optional;"⟩ : MethodName) (head1 (Jvm.Cond.code (⟨"java/util/Optional", "of", "(Ljava/lang/Object;)Ljava/util/Optional;"⟩ : MethodName) jdk_32_method_3_code 1 (some (.object "java/util/Optional")) :: ws) ({ frames := 2, cells := 1, slots := 1, locals := 26 } : Room)) (fun aa_ UU_ => aa_ = #[(.ref ob)] ∧ Z.Warmed39 UU_.vm ∧ UU_.heap = h0) (fun _ _ _ _ _ => True) (fun _ UU_ oo_ UV_ => ∃ vv_ LL_, oo_ = .returned vv_ ∧ Q_rmOf Z wC cC zC wO ob h0 n0 vv_ UV_.heap LL_ ∧ FrameEnd UU_ oo_ UV_ LL_ ({ frames := 2, cells := 1, slots := 1, locals := 26 } : Room).cells ({ frames := 2, cells := 1, slots := 1, locals := 26 } : Room).slots) := by
  refine MetFree.of_bodySF (plainFor_of_name own_pn_java_util_Optional) hisR ?_
  intro p e s m args below meth c s₁ Bd hml0 hP hK
  obtain ⟨rfl, hZ, hh⟩ := hP
  have hx := Bd.exec
  have hby := Bd.bytes
  have hml : c.maxLocals = 1 := hml0
  have hown : s.vm.findClass "java/util/Optional" = some m.cls := findClass_of_methodNamed Bd.named
  have hnm := (name_of_methodNamed Bd.named Bd.method).1
  have X0 : Stand p l e ({ frames := 2, cells := 1, slots := 1, locals := 26 } : Room) s m #[(.ref ob)] below meth c s₁ [] 0 0 := Stand.of_body Bd
  have e0 : s₁.heap = h0 := by rw [← hh, Bd.state]; rfl
  have N0 := Fr.nil n0
  have hn0 : Z.heap.size = n0 := O0.1
  have KT0 : Keep h0 h0 [] := Keep.refl _ _
  refine own_enter (Φ := fun oo_ UV_ => ∃ vv_ LL_, oo_ = .returned vv_ ∧ Q_rmOf Z wC cC zC wO ob h0 n0 vv_ UV_.heap LL_ ∧ FrameEnd s oo_ UV_ LL_ ({ frames := 2, cells := 1, slots := 1, locals := 26 } : Room).cells ({ frames := 2, cells := 1, slots := 1, locals := 26 } : Room).slots) (own_ef_rmOf m ob) ?_
  obtain ⟨T1, h1, X1, e1, E1, A1, D1, -, st1⟩ := newO X0 hx hZ hown (hw _ (List.mem_of_getElem? (i := 73) rfl)) (hw _ (List.mem_of_getElem? (i := 74) rfl)) (hw _ (List.mem_of_getElem? (i := 39) rfl)) e0 (g := (mkF m 0 #[.val (.ref ob)] [])) rfl (hb hby own_d12_0) (by decide) (by decide)
  obtain ⟨b1, g1⟩ : ∃ z, z = h0.size := ⟨_, rfl⟩
  rw [← g1] at A1 D1 st1
  have K2 : Keep h0 h1 [] := own_kext E1
  have zzK2 : h0.size ≤ h1.size := K2.1
  have oo3 : Old Z n0 h1 := O0.keep K2 all0
  have kt4 : Keep h0 h1 [] := KT0.trans K2 all0
  have lab1 : b1 < h1.size := A1.lt
  have f5 : Fld Z h1 b1 "java/util/Optional" "value" "Ljava/lang/Object;" .null := D1 (Or.inr (hw _ (List.mem_of_getElem? (i := 85) rfl))) (ty := (.object "java/lang/Object")) (by decide)
  refine own_by (T' := T1) (g' := (mkF m 3 #[.val (.ref ob)] [(.ref b1)])) st1 ?_
  refine own_by (T' := T1) (g' := (mkF m 4 #[.val (.ref ob)] [(.ref b1), (.ref b1)])) (fun _ kt_ => XS.dup X1.here hx rfl (hb hby own_d12_3) rfl rfl kt_) ?_
  refine own_by (T' := T1) (g' := (mkF m 5 #[.val (.ref ob)] [(.ref ob), (.ref b1), (.ref b1)])) (fun _ kt_ => XS.aloadN X1.here hx rfl (hb hby own_d12_4) rfl rfl kt_) ?_
  obtain ⟨_, _, ⟨T6, L6, k6, n6⟩, -, X6, ⟨Lc6, hQ6, l6, y6, z6⟩, st6⟩ := Jvm.LawKit.callS X1 hx (y := (⟨"java/util/Objects", "requireNonNull", "(Ljava/lang/Object;)Ljava/lang/Object;"⟩ : MethodName)) hown (mvT hZ (hw _ (List.mem_of_getElem? (i := 75) rfl))) (mvT hZ (hw _ (List.mem_of_getElem? (i := 76) rfl))) (mvT hZ (hw _ (List.mem_of_getElem? (i := 77) rfl))) (mvT hZ (hw _ (List.mem_of_getElem? (i := 78) rfl))) (by decide) (backOf (W := 2) (rmRnn l Z a0 hw [] wC cC zC wO GS ob h1 n0 (by omega) oo3 ) hZ (hw _ (List.mem_of_getElem? (i := 78) rfl)) (hw _ (List.mem_of_getElem? (i := 77) rfl)) (by decide) (by decide)) (g := (mkF m 5 #[.val (.ref ob)] [(.ref ob), (.ref b1), (.ref b1)])) rfl (by rw [hml]; rfl) (argsL := [(.ref ob)]) (rest := [(.ref b1), (.ref b1)]) (lenOf own_pd_7 rfl) rfl (by show 2 * 0 + _ ≤ _; exact Nat.le_of_eq rfl) (hb hby own_d12_5) (fun _ _ => ⟨rfl, e1, (by decide : 1 + 0 ≤ _), (by decide : 1 + 0 ≤ _)⟩)
  dsimp only [Pt.U, Pt.locs, Pt.cells, Pt.slots] at X6 l6 y6 z6 st6 hQ6
  subst l6 y6 z6
  obtain ⟨rfl, N6q, e6⟩ := hQ6
  have N7 := Fr.app N0 N6q
  refine own_by (T' := T6) (g' := (mkF m 8 #[.val (.ref ob)] [(.ref ob), (.ref b1), (.ref b1)])) st6 ?_
  obtain ⟨_, _, ⟨T8, L8, k8, n8⟩, -, X8, ⟨Lc8, hQ8, l8, y8, z8⟩, st8⟩ := X6.specialBack hx (y := (⟨"java/util/Optional", "<init>", "(Ljava/lang/Object;)V"⟩ : MethodName)) rfl hown (mvT hZ (hw _ (List.mem_of_getElem? (i := 79) rfl))) (mvT hZ (hw _ (List.mem_of_getElem? (i := 80) rfl))) (mvT hZ (hw _ (List.mem_of_getElem? (i := 82) rfl))) (by decide) (backOf (W := 1) (rmOI l Z a0 hw [] wC cC zC wO GS b1 ob h1 n0 (by omega) oo3 A1 (by omega) f5) hZ (hw _ (List.mem_of_getElem? (i := 82) rfl)) (hw _ (List.mem_of_getElem? (i := 39) rfl)) (by decide) (by decide)) (g := (mkF m 8 #[.val (.ref ob)] [(.ref ob), (.ref b1), (.ref b1)])) rfl (by rw [hml]; rfl) (Steps.refl _) (a := b1) (argsL := [(.ref ob)]) (rest := [(.ref b1)]) (lenOf own_pd_8 rfl) rfl (by show 2 * 0 + _ ≤ _; exact Nat.le_of_eq rfl) (hb hby own_d12_8) (fun _ _ => ⟨rfl, e6, (by decide : 1 + 0 ≤ _), (by decide : 1 + 0 ≤ _)⟩)
  dsimp only [Pt.U, Pt.locs, Pt.cells, Pt.slots] at X8 l8 y8 z8 st8 hQ8
  subst l8 y8 z8
  obtain ⟨rfl, N8q, K8, p8_0⟩ := hQ8
  have N9 := Fr.app N7 N8q
  have zzK8 : h1.size ≤ T8.heap.size := K8.1
  have oo10 : Old Z n0 T8.heap := oo3.keep K8 (allS (by omega : n0 ≤ b1) all0)
  have kt11 : Keep h0 T8.heap [] := kt4.trans K8 (allS (Or.inr (by omega : h0.size ≤ b1)) all0)
  refine own_by (T' := T8) (g' := (mkF m 11 #[.val (.ref ob)] [(.ref b1)])) (fun _ kt_ => st8.trans kt_) ?_
  have f12 : Exa Z T8.heap b1 "java/util/Optional" := (A1.keep K8)
  obtain ⟨fs13, hr13, hrun13, hended13, hW13, hsame13⟩ := X8.leave (v := some (.ref b1)) (fun h => by rw [Bd.returns] at h; cases h)
  refine ⟨_, _, retOut X8 hx (t := (.object "java/util/Optional")) Bd.returns rfl (Or.inr (Or.inr (Or.inr (Or.inr ⟨rfl, rfl, rfl⟩)))) (hb hby own_d12_11) hr13, hrun13, hended13, _, _, rfl, ?_, ⟨_, rfl⟩, hW13, hsame13.mono (by decide) (by decide)⟩
  show Q_rmOf Z wC cC zC wO ob h0 n0 _ T8.heap _
  exact ⟨b1, rfl, N9, kt11, (by omega), f12, p8_0⟩
theorem own_d20_0 : decode jdk_32_method_19_code 0 = .ok (.aload_n 0, 1) := by decide +kernel
theorem own_d20_1 : decode jdk_32_method_19_code 1 = .ok (.aload_n 1, 1) := by decide +kernel
theorem own_d20_2 : decode jdk_32_method_19_code 2 = .ok (.if_acmp .ne 5, 3) := by decide +kernel
theorem own_d20_5 : decode jdk_32_method_19_code 5 = .ok (.iconst 1, 1) := by decide +kernel
theorem own_d20_6 : decode jdk_32_method_19_code 6 = .ok (.ireturn, 1) := by decide +kernel
theorem own_ef_rmOEq (m : MethodId) (x0 : Addr) (x1 : Addr) : entryFrame m #[(.ref x0), (.ref x1)] 3 = mkF m 0 #[.val (.ref x0), .val (.ref x1), .unset] [] := by first | (simp [entryFrame, mkF, argsToLocals, Value.category]; done) | rfl
def Q_rmOEq (Z : State) (wC : Addr) (cC : Cell) (zC : Int32) (wO : Addr) (a : Addr) (h0 : Heap) (n0 : Nat) (vv_ : Option Value) (hh_ : Heap) (LL_ : List Loc) : Prop := vv_ = some (.int (1 : Int32)) ∧ Fr n0 LL_ ∧ hh_ = h0
set_option maxRecDepth 65536 in
set_option maxHeartbeats 40000000 in
theorem rmOEq (l : Launch) (Z : State) (a0 : Array Value) (hw : ∀ d ∈ tables_1, d.before a0 Z = true) (ws : List Jvm.Cond) (wC : Addr) (cC : Cell) (zC : Int32) (wO : Addr) (GS : Glob Z wC cC zC wO) (a : Addr) (h0 : Heap) (n0 : Nat) (Z0 : n0 ≤ h0.size) (O0 : Old Z n0 h0) :
    MetFree l (⟨"java/util/Optional", "equals", "(Ljava/lang/Object;)Z"⟩ : MethodName) (head1 (Jvm.Cond.code (⟨"java/util/Optional", "equals", "(Ljava/lang/Object;)Z"⟩ : MethodName) jdk_32_method_19_code 3 (some .boolean) :: ws) ({ frames := 0, cells := 0, slots := 0, locals := 0 } : Room)) (fun aa_ UU_ => aa_ = #[(.ref a), (.ref a)] ∧ Z.Warmed39 UU_.vm ∧ UU_.heap = h0) (fun _ _ _ _ _ => True) (fun _ UU_ oo_ UV_ => ∃ vv_ LL_, oo_ = .returned vv_ ∧ Q_rmOEq Z wC cC zC wO a h0 n0 vv_ UV_.heap LL_ ∧ FrameEnd UU_ oo_ UV_ LL_ ({ frames := 0, cells := 0, slots := 0, locals := 0 } : Room).cells ({ frames := 0, cells := 0, slots := 0, locals := 0 } : Room).slots) := by
  refine MetFree.of_bodySF (plainFor_of_name own_pn_java_util_Optional) hisR ?_
  intro p e s m args below meth c s₁ Bd hml0 hP hK
  obtain ⟨rfl, hZ, hh⟩ := hP
  have hx := Bd.exec
  have hby := Bd.bytes
  have hml : c.maxLocals = 3 := hml0
  have hown : s.vm.findClass "java/util/Optional" = some m.cls := findClass_of_methodNamed Bd.named
  have hnm := (name_of_methodNamed Bd.named Bd.method).1
  have X0 : Stand p l e ({ frames := 0, cells := 0, slots := 0, locals := 0 } : Room) s m #[(.ref a), (.ref a)] below meth c s₁ [] 0 0 := Stand.of_body Bd
  have e0 : s₁.heap = h0 := by rw [← hh, Bd.state]; rfl
  have N0 := Fr.nil n0
  have hn0 : Z.heap.size = n0 := O0.1
  have KT0 : Keep h0 h0 [] := Keep.refl _ _
  refine own_enter (Φ := fun oo_ UV_ => ∃ vv_ LL_, oo_ = .returned vv_ ∧ Q_rmOEq Z wC cC zC wO a h0 n0 vv_ UV_.heap LL_ ∧ FrameEnd s oo_ UV_ LL_ ({ frames := 0, cells := 0, slots := 0, locals := 0 } : Room).cells ({ frames := 0, cells := 0, slots := 0, locals := 0 } : Room).slots) (own_ef_rmOEq m a a) ?_
  refine own_by (T' := s₁) (g' := (mkF m 1 #[.val (.ref a), .val (.ref a), .unset] [(.ref a)])) (fun _ kt_ => XS.aloadN X0.here hx rfl (hb hby own_d20_0) rfl rfl kt_) ?_
  refine own_by (T' := s₁) (g' := (mkF m 2 #[.val (.ref a), .val (.ref a), .unset] [(.ref a), (.ref a)])) (fun _ kt_ => XS.aloadN X0.here hx rfl (hb hby own_d20_1) rfl rfl kt_) ?_
  refine own_by (T' := s₁) (g' := (mkF m 5 #[.val (.ref a), .val (.ref a), .unset] [])) (fun _ kt_ => Jvm.RoadKit.acmp (g := (mkF m 2 #[.val (.ref a), .val (.ref a), .unset] [(.ref a), (.ref a)])) X0 hx rfl rfl rfl (pc0 := 2) (pc' := 5) (same := true) rfl (hb hby own_d20_2) rfl (decide_eq_true rfl) (by decide) (by decide) kt_) ?_
  refine own_by (T' := s₁) (g' := (mkF m 6 #[.val (.ref a), .val (.ref a), .unset] [(.int (1 : Int32))])) (fun _ kt_ => XS.iconst X0.here hx rfl (hb hby own_d20_5) kt_) ?_
  have hn1 : nar .boolean (1 : Int32) = (1 : Int32) := rfl
  obtain ⟨fs2, hr2, hrun2, hended2, hW2, hsame2⟩ := X0.leave (v := some (.int (nar .boolean (1 : Int32)))) (fun h => by rw [Bd.returns] at h; cases h)
  refine ⟨_, _, retN X0 hx (t := .boolean) Bd.returns (by simp) (hb hby own_d20_6) hr2, hrun2, hended2, _, _, rfl, ?_, ⟨_, rfl⟩, hW2, hsame2.mono (by decide) (by decide)⟩
  show Q_rmOEq Z wC cC zC wO a h0 n0 _ s₁.heap _
  exact ⟨(congrArg (fun z => some (Value.int z)) hn1), N0, e0⟩
theorem own_d22_0 : decode jdk_32_method_6_code 0 = .ok (.aload_n 0, 1) := by decide +kernel
theorem own_d22_1 : decode jdk_32_method_6_code 1 = .ok (.getfield 13, 3) := by decide +kernel
theorem own_d22_4 : decode jdk_32_method_6_code 4 = .ok (.ifnull 7, 3) := by decide +kernel
theorem own_d22_7 : decode jdk_32_method_6_code 7 = .ok (.iconst 1, 1) := by decide +kernel
theorem own_d22_8 : decode jdk_32_method_6_code 8 = .ok (.goto 4, 3) := by decide +kernel
theorem own_d22_12 : decode jdk_32_method_6_code 12 = .ok (.ireturn, 1) := by decide +kernel
theorem own_ef_rmIsP (m : MethodId) (x0 : Addr) : entryFrame m #[(.ref x0)] 1 = mkF m 0 #[.val (.ref x0)] [] := by first | (simp [entryFrame, mkF, argsToLocals, Value.category]; done) | rfl
def Q_rmIsP (Z : State) (wC : Addr) (cC : Cell) (zC : Int32) (wO : Addr) (a : Addr) (ob : Addr) (h0 : Heap) (n0 : Nat) (vv_ : Option Value) (hh_ : Heap) (LL_ : List Loc) : Prop := vv_ = some (.int (1 : Int32)) ∧ Fr n0 LL_ ∧ hh_ = h0
set_option maxRecDepth 65536 in
set_option maxHeartbeats 40000000 in
theorem rmIsP (l : Launch) (Z : State) (a0 : Array Value) (hw : ∀ d ∈ tables_1, d.before a0 Z = true) (ws : List Jvm.Cond) (wC : Addr) (cC : Cell) (zC : Int32) (wO : Addr) (GS : Glob Z wC cC zC wO) (a : Addr) (ob : Addr) (h0 : Heap) (n0 : Nat) (Z0 : n0 ≤ h0.size) (O0 : Old Z n0 h0) (Fv : Fld Z h0 a "java/util/Optional" "value" "Ljava/lang/Object;" (.ref ob)) :
    MetFree l (⟨"java/util/Optional", "isPresent", "()Z"⟩ : MethodName) (head1 (Jvm.Cond.code (⟨"java/util/Optional", "isPresent", "()Z"⟩ : MethodName) jdk_32_method_6_code 1 (some .boolean) :: ws) ({ frames := 0, cells := 0, slots := 0, locals := 0 } : Room)) (fun aa_ UU_ => aa_ = #[(.ref a)] ∧ Z.Warmed39 UU_.vm ∧ UU_.heap = h0) (fun _ _ _ _ _ => True) (fun _ UU_ oo_ UV_ => ∃ vv_ LL_, oo_ = .returned vv_ ∧ Q_rmIsP Z wC cC zC wO a ob h0 n0 vv_ UV_.heap LL_ ∧ FrameEnd UU_ oo_ UV_ LL_ ({ frames := 0, cells := 0, slots := 0, locals := 0 } : Room).cells ({ frames := 0, cells := 0, slots := 0, locals := 0 } : Room).slots) := by
  refine MetFree.of_bodySF (plainFor_of_name own_pn_java_util_Optional) hisR ?_
  intro p e s m args below meth c s₁ Bd hml0 hP hK
  obtain ⟨rfl, hZ, hh⟩ := hP
  have hx := Bd.exec
  have hby := Bd.bytes
  have hml : c.maxLocals = 1 := hml0
  have hown : s.vm.findClass "java/util/Optional" = some m.cls := findClass_of_methodNamed Bd.named
  have hnm := (name_of_methodNamed Bd.named Bd.method).1
  have X0 : Stand p l e ({ frames := 0, cells := 0, slots := 0, locals := 0 } : Room) s m #[(.ref a)] below meth c s₁ [] 0 0 := Stand.of_body Bd
  have e0 : s₁.heap = h0 := by rw [← hh, Bd.state]; rfl
  have N0 := Fr.nil n0
  have hn0 : Z.heap.size = n0 := O0.1
  have KT0 : Keep h0 h0 [] := Keep.refl _ _
  refine own_enter (Φ := fun oo_ UV_ => ∃ vv_ LL_, oo_ = .returned vv_ ∧ Q_rmIsP Z wC cC zC wO a ob h0 n0 vv_ UV_.heap LL_ ∧ FrameEnd s oo_ UV_ LL_ ({ frames := 0, cells := 0, slots := 0, locals := 0 } : Room).cells ({ frames := 0, cells := 0, slots := 0, locals := 0 } : Room).slots) (own_ef_rmIsP m a) ?_
  refine own_by (T' := s₁) (g' := (mkF m 1 #[.val (.ref a)] [(.ref a)])) (fun _ kt_ => XS.aloadN X0.here hx rfl (hb hby own_d22_0) rfl rfl kt_) ?_
  obtain ⟨T1, X1, e1, st1⟩ := getF X0 hx hZ hown (host := "") (Or.inl (hw _ (List.mem_of_getElem? (i := 84) rfl))) Via.refl e0 Fv (g := (mkF m 1 #[.val (.ref a)] [(.ref a)])) rfl rfl (hb hby own_d22_1)
  refine own_by (T' := T1) (g' := (mkF m 4 #[.val (.ref a)] [(.ref ob)])) st1 ?_
  refine own_by (T' := T1) (g' := (mkF m 7 #[.val (.ref a)] [])) (fun _ kt_ => XS.ifnullNo X1.here hx rfl (hb hby own_d22_4) rfl kt_) ?_
  refine own_by (T' := T1) (g' := (mkF m 8 #[.val (.ref a)] [(.int (1 : Int32))])) (fun _ kt_ => XS.iconst X1.here hx rfl (hb hby own_d22_7) kt_) ?_
  refine own_by (T' := T1) (g' := (mkF m 12 #[.val (.ref a)] [(.int (1 : Int32))])) (fun _ kt_ => XS.goto X1.here hx rfl (pc0 := 8) (pc' := 12) rfl (hb hby own_d22_8) (by decide) (by decide) kt_) ?_
  have hn2 : nar .boolean (1 : Int32) = (1 : Int32) := rfl
  obtain ⟨fs3, hr3, hrun3, hended3, hW3, hsame3⟩ := X1.leave (v := some (.int (nar .boolean (1 : Int32)))) (fun h => by rw [Bd.returns] at h; cases h)
  refine ⟨_, _, retN X1 hx (t := .boolean) Bd.returns (by simp) (hb hby own_d22_12) hr3, hrun3, hended3, _, _, rfl, ?_, ⟨_, rfl⟩, hW3, hsame3.mono (by decide) (by decide)⟩
  show Q_rmIsP Z wC cC zC wO a ob h0 n0 _ T1.heap _
  exact ⟨(congrArg (fun z => some (Value.int z)) hn2), N0, e1⟩
theorem own_d23_0 : decode jdk_32_method_5_code 0 = .ok (.aload_n 0, 1) := by decide +kernel
theorem own_d23_1 : decode jdk_32_method_5_code 1 = .ok (.getfield 13, 3) := by decide +kernel
theorem own_d23_4 : decode jdk_32_method_5_code 4 = .ok (.ifnonnull 13, 3) := by decide +kernel
theorem own_d23_17 : decode jdk_32_method_5_code 17 = .ok (.aload_n 0, 1) := by decide +kernel
theorem own_d23_18 : decode jdk_32_method_5_code 18 = .ok (.getfield 13, 3) := by decide +kernel
theorem own_d23_21 : decode jdk_32_method_5_code 21 = .ok (.areturn, 1) := by decide +kernel
theorem own_ef_rmGet (m : MethodId) (x0 : Addr) : entryFrame m #[(.ref x0)] 1 = mkF m 0 #[.val (.ref x0)] [] := by first | (simp [entryFrame, mkF, argsToLocals, Value.category]; done) | rfl
def Q_rmGet (Z : State) (wC : Addr) (cC : Cell) (zC : Int32) (wO : Addr) (a : Addr) (ob : Addr) (h0 : Heap) (n0 : Nat) (vv_ : Option Value) (hh_ : Heap) (LL_ : List Loc) : Prop := vv_ = some (.ref ob) ∧ Fr n0 LL_ ∧ hh_ = h0
set_option maxRecDepth 65536 in
set_option maxHeartbeats 40000000 in
theorem rmGet (l : Launch) (Z : State) (a0 : Array Value) (hw : ∀ d ∈ tables_1, d.before a0 Z = true) (ws : List Jvm.Cond) (wC : Addr) (cC : Cell) (zC : Int32) (wO : Addr) (GS : Glob Z wC cC zC wO) (a : Addr) (ob : Addr) (h0 : Heap) (n0 : Nat) (Z0 : n0 ≤ h0.size) (O0 : Old Z n0 h0) (Fv : Fld Z h0 a "java/util/Optional" "value" "Ljava/lang/Object;" (.ref ob)) :
    MetFree l (⟨"java/util/Optional", "get", "()Ljava/lang/Object;"⟩ : MethodName) (head1 (Jvm.Cond.code (⟨"java/util/Optional", "get", "()Ljava/lang/Object;"⟩ : MethodName) jdk_32_method_5_code 1 (some (.object "java/lang/Object")) :: ws) ({ frames := 0, cells := 0, slots := 0, locals := 0 } : Room)) (fun aa_ UU_ => aa_ = #[(.ref a)] ∧ Z.Warmed39 UU_.vm ∧ UU_.heap = h0) (fun _ _ _ _ _ => True) (fun _ UU_ oo_ UV_ => ∃ vv_ LL_, oo_ = .returned vv_ ∧ Q_rmGet Z wC cC zC wO a ob h0 n0 vv_ UV_.heap LL_ ∧ FrameEnd UU_ oo_ UV_ LL_ ({ frames := 0, cells := 0, slots := 0, locals := 0 } : Room).cells ({ frames := 0, cells := 0, slots := 0, locals := 0 } : Room).slots) := by
  refine MetFree.of_bodySF (plainFor_of_name own_pn_java_util_Optional) hisR ?_
  intro p e s m args below meth c s₁ Bd hml0 hP hK
  obtain ⟨rfl, hZ, hh⟩ := hP
  have hx := Bd.exec
  have hby := Bd.bytes
  have hml : c.maxLocals = 1 := hml0
  have hown : s.vm.findClass "java/util/Optional" = some m.cls := findClass_of_methodNamed Bd.named
  have hnm := (name_of_methodNamed Bd.named Bd.method).1
  have X0 : Stand p l e ({ frames := 0, cells := 0, slots := 0, locals := 0 } : Room) s m #[(.ref a)] below meth c s₁ [] 0 0 := Stand.of_body Bd
  have e0 : s₁.heap = h0 := by rw [← hh, Bd.state]; rfl
  have N0 := Fr.nil n0
  have hn0 : Z.heap.size = n0 := O0.1
  have KT0 : Keep h0 h0 [] := Keep.refl _ _
  refine own_enter (Φ := fun oo_ UV_ => ∃ vv_ LL_, oo_ = .returned vv_ ∧ Q_rmGet Z wC cC zC wO a ob h0 n0 vv_ UV_.heap LL_ ∧ FrameEnd s oo_ UV_ LL_ ({ frames := 0, cells := 0, slots := 0, locals := 0 } : Room).cells ({ frames := 0, cells := 0, slots := 0, locals := 0 } : Room).slots) (own_ef_rmGet m a) ?_
  refine own_by (T' := s₁) (g' := (mkF m 1 #[.val (.ref a)] [(.ref a)])) (fun _ kt_ => XS.aloadN X0.here hx rfl (hb hby own_d23_0) rfl rfl kt_) ?_
  obtain ⟨T1, X1, e1, st1⟩ := getF X0 hx hZ hown (host := "") (Or.inl (hw _ (List.mem_of_getElem? (i := 84) rfl))) Via.refl e0 Fv (g := (mkF m 1 #[.val (.ref a)] [(.ref a)])) rfl rfl (hb hby own_d23_1)
  refine own_by (T' := T1) (g' := (mkF m 4 #[.val (.ref a)] [(.ref ob)])) st1 ?_
  refine own_by (T' := T1) (g' := (mkF m 17 #[.val (.ref a)] [])) (fun _ kt_ => XS.ifnonnullYes X1.here hx rfl (pc0 := 4) (pc' := 17) rfl (hb hby own_d23_4) rfl (by decide) (by decide) kt_) ?_
  refine own_by (T' := T1) (g' := (mkF m 18 #[.val (.ref a)] [(.ref a)])) (fun _ kt_ => XS.aloadN X1.here hx rfl (hb hby own_d23_17) rfl rfl kt_) ?_
  obtain ⟨T2, X2, e2, st2⟩ := getF X1 hx hZ hown (host := "") (Or.inl (hw _ (List.mem_of_getElem? (i := 84) rfl))) Via.refl e1 Fv (g := (mkF m 18 #[.val (.ref a)] [(.ref a)])) rfl rfl (hb hby own_d23_18)
  refine own_by (T' := T2) (g' := (mkF m 21 #[.val (.ref a)] [(.ref ob)])) st2 ?_
  obtain ⟨fs3, hr3, hrun3, hended3, hW3, hsame3⟩ := X2.leave (v := some (.ref ob)) (fun h => by rw [Bd.returns] at h; cases h)
  refine ⟨_, _, retOut X2 hx (t := (.object "java/lang/Object")) Bd.returns rfl (Or.inr (Or.inr (Or.inr (Or.inr ⟨rfl, rfl, rfl⟩)))) (hb hby own_d23_21) hr3, hrun3, hended3, _, _, rfl, ?_, ⟨_, rfl⟩, hW3, hsame3.mono (by decide) (by decide)⟩
  show Q_rmGet Z wC cC zC wO a ob h0 n0 _ T2.heap _
  exact ⟨rfl, N0, e2⟩
theorem own_d10_0 : decode jdk_30_method_1_code 0 = .ok (.aload_n 0, 1) := by decide +kernel
theorem own_d10_1 : decode jdk_30_method_1_code 1 = .ok (.invokespecial 1, 3) := by decide +kernel
theorem own_d10_4 : decode jdk_30_method_1_code 4 = .ok (.return_, 1) := by decide +kernel
theorem own_pn_java_lang_Record : plainName "java/lang/Record" = true := by first | (simp [plainName, overriddenIn]; done) | decide +kernel
theorem own_ef_rmRec (m : MethodId) (x0 : Addr) : entryFrame m #[(.ref x0)] 1 = mkF m 0 #[.val (.ref x0)] [] := by first | (simp [entryFrame, mkF, argsToLocals, Value.category]; done) | rfl
def Q_rmRec (Z : State) (wC : Addr) (cC : Cell) (zC : Int32) (wO : Addr) (a : Addr) (h0 : Heap) (n0 : Nat) (vv_ : Option Value) (hh_ : Heap) (LL_ : List Loc) : Prop := vv_ = none ∧ Fr n0 LL_ ∧ hh_ = h0
set_option maxRecDepth 65536 in
set_option maxHeartbeats 40000000 in
theorem rmRec (l : Launch) (Z : State) (a0 : Array Value) (hw : ∀ d ∈ tables_1, d.before a0 Z = true) (ws : List Jvm.Cond) (wC : Addr) (cC : Cell) (zC : Int32) (wO : Addr) (GS : Glob Z wC cC zC wO) (a : Addr) (h0 : Heap) (n0 : Nat) (Z0 : n0 ≤ h0.size) (O0 : Old Z n0 h0) :
    MetFree l (⟨"java/lang/Record", "<init>", "()V"⟩ : MethodName) (head1 (Jvm.Cond.code (⟨"java/lang/Record", "<init>", "()V"⟩ : MethodName) jdk_30_method_1_code 1 none :: ws) ({ frames := 1, cells := 0, slots := 0, locals := 12 } : Room)) (fun aa_ UU_ => aa_ = #[(.ref a)] ∧ Z.Warmed39 UU_.vm ∧ UU_.heap = h0) (fun _ _ _ _ _ => True) (fun _ UU_ oo_ UV_ => ∃ vv_ LL_, oo_ = .returned vv_ ∧ Q_rmRec Z wC cC zC wO a h0 n0 vv_ UV_.heap LL_ ∧ FrameEnd UU_ oo_ UV_ LL_ ({ frames := 1, cells := 0, slots := 0, locals := 12 } : Room).cells ({ frames := 1, cells := 0, slots := 0, locals := 12 } : Room).slots) := by
  refine MetFree.of_bodySF (plainFor_of_name own_pn_java_lang_Record) hisR ?_
  intro p e s m args below meth c s₁ Bd hml0 hP hK
  obtain ⟨rfl, hZ, hh⟩ := hP
  have hx := Bd.exec
  have hby := Bd.bytes
  have hml : c.maxLocals = 1 := hml0
  have hown : s.vm.findClass "java/lang/Record" = some m.cls := findClass_of_methodNamed Bd.named
  have hnm := (name_of_methodNamed Bd.named Bd.method).1
  have X0 : Stand p l e ({ frames := 1, cells := 0, slots := 0, locals := 12 } : Room) s m #[(.ref a)] below meth c s₁ [] 0 0 := Stand.of_body Bd
  have e0 : s₁.heap = h0 := by rw [← hh, Bd.state]; rfl
  have N0 := Fr.nil n0
  have hn0 : Z.heap.size = n0 := O0.1
  have KT0 : Keep h0 h0 [] := Keep.refl _ _
  refine own_enter (Φ := fun oo_ UV_ => ∃ vv_ LL_, oo_ = .returned vv_ ∧ Q_rmRec Z wC cC zC wO a h0 n0 vv_ UV_.heap LL_ ∧ FrameEnd s oo_ UV_ LL_ ({ frames := 1, cells := 0, slots := 0, locals := 12 } : Room).cells ({ frames := 1, cells := 0, slots := 0, locals := 12 } : Room).slots) (own_ef_rmRec m a) ?_
  refine own_by (T' := s₁) (g' := (mkF m 1 #[.val (.ref a)] [(.ref a)])) (fun _ kt_ => XS.aloadN X0.here hx rfl (hb hby own_d10_0) rfl rfl kt_) ?_
  obtain ⟨T1, X1, e1, st1⟩ := initO X0 hx hZ hown (hw _ (List.mem_of_getElem? (i := 50) rfl)) (hw _ (List.mem_of_getElem? (i := 16) rfl)) (hw _ (List.mem_of_getElem? (i := 17) rfl)) e0 (g := (mkF m 1 #[.val (.ref a)] [(.ref a)])) rfl (by rw [hml]; rfl) rfl (hb hby own_d10_1) (by decide) (W := 0) (by show 2 * 0 + _ ≤ _; exact Nat.le_of_eq rfl) (by decide)
  refine own_by (T' := T1) (g' := (mkF m 4 #[.val (.ref a)] [])) st1 ?_
  obtain ⟨fs2, hr2, hrun2, hended2, hW2, hsame2⟩ := X1.leave (v := none) (fun _ => rfl)
  refine ⟨_, _, X1.returnOut hx Bd.returns (hb hby own_d10_4) hr2, hrun2, hended2, _, _, rfl, ?_, ⟨_, rfl⟩, hW2, hsame2.mono (by decide) (by decide)⟩
  show Q_rmRec Z wC cC zC wO a h0 n0 _ T1.heap _
  exact ⟨rfl, N0, e1⟩
theorem own_d9_0 : decode prog_57_method_1_code 0 = .ok (.aload_n 0, 1) := by decide +kernel
theorem own_d9_1 : decode prog_57_method_1_code 1 = .ok (.invokespecial 1, 3) := by decide +kernel
theorem own_d9_4 : decode prog_57_method_1_code 4 = .ok (.aload_n 0, 1) := by decide +kernel
theorem own_d9_5 : decode prog_57_method_1_code 5 = .ok (.iload_n 1, 1) := by decide +kernel
theorem own_d9_6 : decode prog_57_method_1_code 6 = .ok (.putfield 7, 3) := by decide +kernel
theorem own_d9_9 : decode prog_57_method_1_code 9 = .ok (.aload_n 0, 1) := by decide +kernel
theorem own_d9_10 : decode prog_57_method_1_code 10 = .ok (.aload_n 2, 1) := by decide +kernel
theorem own_d9_11 : decode prog_57_method_1_code 11 = .ok (.putfield 13, 3) := by decide +kernel
theorem own_d9_14 : decode prog_57_method_1_code 14 = .ok (.aload_n 0, 1) := by decide +kernel
theorem own_d9_15 : decode prog_57_method_1_code 15 = .ok (.aload_n 3, 1) := by decide +kernel
theorem own_d9_16 : decode prog_57_method_1_code 16 = .ok (.putfield 17, 3) := by decide +kernel
theorem own_d9_19 : decode prog_57_method_1_code 19 = .ok (.aload_n 0, 1) := by decide +kernel
theorem own_d9_20 : decode prog_57_method_1_code 20 = .ok (.aload 4, 2) := by decide +kernel
theorem own_d9_22 : decode prog_57_method_1_code 22 = .ok (.putfield 20, 3) := by decide +kernel
theorem own_d9_25 : decode prog_57_method_1_code 25 = .ok (.aload_n 0, 1) := by decide +kernel
theorem own_d9_26 : decode prog_57_method_1_code 26 = .ok (.iload 5, 2) := by decide +kernel
theorem own_d9_28 : decode prog_57_method_1_code 28 = .ok (.putfield 24, 3) := by decide +kernel
theorem own_d9_31 : decode prog_57_method_1_code 31 = .ok (.aload_n 0, 1) := by decide +kernel
theorem own_d9_32 : decode prog_57_method_1_code 32 = .ok (.iload 6, 2) := by decide +kernel
theorem own_d9_34 : decode prog_57_method_1_code 34 = .ok (.putfield 28, 3) := by decide +kernel
theorem own_d9_37 : decode prog_57_method_1_code 37 = .ok (.return_, 1) := by decide +kernel
theorem own_pn_com_example_vestledger_vestledger_plan_Fund : plainName "com/example/vestledger/vestledger/plan/Fund" = true := by first | (simp [plainName, overriddenIn]; done) | decide +kernel
theorem own_ef_rmFI (m : MethodId) (x0 : Addr) (x1 : Int32) (x2 : Addr) (x3 : Addr) (x4 : Addr) (x5 : Int32) (x6 : Int32) : entryFrame m #[(.ref x0), (.int x1), (.ref x2), (.ref x3), (.ref x4), (.int x5), (.int x6)] 7 = mkF m 0 #[.val (.ref x0), .val (.int x1), .val (.ref x2), .val (.ref x3), .val (.ref x4), .val (.int x5), .val (.int x6)] [] := by first | (simp [entryFrame, mkF, argsToLocals, Value.category]; done) | rfl
def Q_rmFI (Z : State) (wC : Addr) (cC : Cell) (zC : Int32) (wO : Addr) (a : Addr) (n : Int32) (i : Addr) (nm : Addr) (ob : Addr) (sv : Int32) (l_ : Int32) (h0 : Heap) (n0 : Nat) (vv_ : Option Value) (hh_ : Heap) (LL_ : List Loc) : Prop := vv_ = none ∧ Fr n0 LL_ ∧ Keep h0 hh_ [a] ∧ Fld Z hh_ a "com/example/vestledger/vestledger/plan/Fund" "number" "I" (.int n) ∧ Fld Z hh_ a "com/example/vestledger/vestledger/plan/Fund" "id" "Ljava/lang/String;" (.ref i) ∧ Fld Z hh_ a "com/example/vestledger/vestledger/plan/Fund" "name" "Ljava/lang/String;" (.ref nm) ∧ Fld Z hh_ a "com/example/vestledger/vestledger/plan/Fund" "fixedPrice" "Ljava/util/Optional;" (.ref ob) ∧ Fld Z hh_ a "com/example/vestledger/vestledger/plan/Fund" "companyStock" "Z" (.int (sv &&& 1)) ∧ Fld Z hh_ a "com/example/vestledger/vestledger/plan/Fund" "line" "I" (.int l_)
set_option maxRecDepth 65536 in
set_option maxHeartbeats 40000000 in
theorem rmFI (l : Launch) (Z : State) (a0 : Array Value) (hw : ∀ d ∈ tables_1, d.before a0 Z = true) (ws : List Jvm.Cond) (wC : Addr) (cC : Cell) (zC : Int32) (wO : Addr) (GS : Glob Z wC cC zC wO) (a : Addr) (n : Int32) (i : Addr) (nm : Addr) (ob : Addr) (sv : Int32) (l_ : Int32) (h0 : Heap) (n0 : Nat) (Z0 : n0 ≤ h0.size) (O0 : Old Z n0 h0) (E_a : Exa Z h0 a "com/example/vestledger/vestledger/plan/Fund") (g_a : n0 ≤ a) (F_number : Fld Z h0 a "com/example/vestledger/vestledger/plan/Fund" "number" "I" (.int (0 : Int32))) (F_id : Fld Z h0 a "com/example/vestledger/vestledger/plan/Fund" "id" "Ljava/lang/String;" .null) (F_name : Fld Z h0 a "com/example/vestledger/vestledger/plan/Fund" "name" "Ljava/lang/String;" .null) (F_fixedPrice : Fld Z h0 a "com/example/vestledger/vestledger/plan/Fund" "fixedPrice" "Ljava/util/Optional;" .null) (F_companyStock : Fld Z h0 a "com/example/vestledger/vestledger/plan/Fund" "companyStock" "Z" (.int (0 : Int32))) (F_line : Fld Z h0 a "com/example/vestledger/vestledger/plan/Fund" "line" "I" (.int (0 : Int32))) :
    MetFree l (⟨"com/example/vestledger/vestledger/plan/Fund", "<init>", "(ILjava/lang/String;Ljava/lang/String;Ljava/util/Optional;ZI)V"⟩ : MethodName) (head1 (Jvm.Cond.code (⟨"com/example/vestledger/vestledger/plan/Fund", "<init>", "(ILjava/lang/String;Ljava/lang/String;Ljava/util/Optional;ZI)V"⟩ : MethodName) prog_57_method_1_code 7 none :: ws) ({ frames := 2, cells := 0, slots := 0, locals := 24 } : Room)) (fun aa_ UU_ => aa_ = #[(.ref a), (.int n), (.ref i), (.ref nm), (.ref ob), (.int sv), (.int l_)] ∧ Z.Warmed39 UU_.vm ∧ UU_.heap = h0) (fun _ _ _ _ _ => True) (fun _ UU_ oo_ UV_ => ∃ vv_ LL_, oo_ = .returned vv_ ∧ Q_rmFI Z wC cC zC wO a n i nm ob sv l_ h0 n0 vv_ UV_.heap LL_ ∧ FrameEnd UU_ oo_ UV_ LL_ ({ frames := 2, cells := 0, slots := 0, locals := 24 } : Room).cells ({ frames := 2, cells := 0, slots := 0, locals := 24 } : Room).slots) := by
  refine MetFree.of_bodySF (plainFor_of_name own_pn_com_example_vestledger_vestledger_plan_Fund) hisR ?_
  intro p e s m args below meth c s₁ Bd hml0 hP hK
  obtain ⟨rfl, hZ, hh⟩ := hP
  have hx := Bd.exec
  have hby := Bd.bytes
  have hml : c.maxLocals = 7 := hml0
  have hown : s.vm.findClass "com/example/vestledger/vestledger/plan/Fund" = some m.cls := findClass_of_methodNamed Bd.named
  have hnm := (name_of_methodNamed Bd.named Bd.method).1
  have X0 : Stand p l e ({ frames := 2, cells := 0, slots := 0, locals := 24 } : Room) s m #[(.ref a), (.int n), (.ref i), (.ref nm), (.ref ob), (.int sv), (.int l_)] below meth c s₁ [] 0 0 := Stand.of_body Bd
  have e0 : s₁.heap = h0 := by rw [← hh, Bd.state]; rfl
  have N0 := Fr.nil n0
  have hn0 : Z.heap.size = n0 := O0.1
  have KT0 : Keep h0 h0 [a] := Keep.refl _ _
  refine own_enter (Φ := fun oo_ UV_ => ∃ vv_ LL_, oo_ = .returned vv_ ∧ Q_rmFI Z wC cC zC wO a n i nm ob sv l_ h0 n0 vv_ UV_.heap LL_ ∧ FrameEnd s oo_ UV_ LL_ ({ frames := 2, cells := 0, slots := 0, locals := 24 } : Room).cells ({ frames := 2, cells := 0, slots := 0, locals := 24 } : Room).slots) (own_ef_rmFI m a n i nm ob sv l_) ?_
  refine own_by (T' := s₁) (g' := (mkF m 1 #[.val (.ref a), .val (.int n), .val (.ref i), .val (.ref nm), .val (.ref ob), .val (.int sv), .val (.int l_)] [(.ref a)])) (fun _ kt_ => XS.aloadN X0.here hx rfl (hb hby own_d9_0) rfl rfl kt_) ?_
  obtain ⟨_, _, ⟨T1, L1, k1, n1⟩, -, X1, ⟨Lc1, hQ1, l1, y1, z1⟩, st1⟩ := X0.specialBack hx (y := (⟨"java/lang/Record", "<init>", "()V"⟩ : MethodName)) rfl hown (mvT hZ (hw _ (List.mem_of_getElem? (i := 45) rfl))) (mvT hZ (hw _ (List.mem_of_getElem? (i := 46) rfl))) (mvT hZ (hw _ (List.mem_of_getElem? (i := 49) rfl))) (by decide) (backOf (W := 0) (rmRec l Z a0 hw [] wC cC zC wO GS a h0 n0 (by omega) O0 ) hZ (hw _ (List.mem_of_getElem? (i := 49) rfl)) (hw _ (List.mem_of_getElem? (i := 48) rfl)) (by decide) (by decide)) (g := (mkF m 1 #[.val (.ref a), .val (.int n), .val (.ref i), .val (.ref nm), .val (.ref ob), .val (.int sv), .val (.int l_)] [(.ref a)])) rfl (by rw [hml]; rfl) (Steps.refl _) (a := a) (argsL := []) (rest := []) (lenOf own_pd_0 rfl) rfl (by show 2 * 0 + _ ≤ _; exact Nat.le_of_eq rfl) (hb hby own_d9_1) (fun _ _ => ⟨rfl, e0, (by decide : 0 + 0 ≤ _), (by decide : 0 + 0 ≤ _)⟩)
  dsimp only [Pt.U, Pt.locs, Pt.cells, Pt.slots] at X1 l1 y1 z1 st1 hQ1
  subst l1 y1 z1
  obtain ⟨rfl, N1q, e1⟩ := hQ1
  have N2 := Fr.app N0 N1q
  refine own_by (T' := T1) (g' := (mkF m 4 #[.val (.ref a), .val (.int n), .val (.ref i), .val (.ref nm), .val (.ref ob), .val (.int sv), .val (.int l_)] [])) (fun _ kt_ => st1.trans kt_) ?_
  refine own_by (T' := T1) (g' := (mkF m 5 #[.val (.ref a), .val (.int n), .val (.ref i), .val (.ref nm), .val (.ref ob), .val (.int sv), .val (.int l_)] [(.ref a)])) (fun _ kt_ => XS.aloadN X1.here hx rfl (hb hby own_d9_4) rfl rfl kt_) ?_
  refine own_by (T' := T1) (g' := (mkF m 6 #[.val (.ref a), .val (.int n), .val (.ref i), .val (.ref nm), .val (.ref ob), .val (.int sv), .val (.int l_)] [(.int n), (.ref a)])) (fun _ kt_ => XS.iloadN X1.here hx rfl (hb hby own_d9_5) rfl kt_) ?_
  obtain ⟨T3, h3, X3, e3, W3, st3⟩ := putF X1 hx hZ hown (host := "") (Or.inl (hw _ (List.mem_of_getElem? (i := 51) rfl))) Via.refl e1 F_number E_a (Or.inr ⟨(hw _ (List.mem_of_getElem? (i := 52) rfl)), rfl, hnm⟩) (hw _ (List.mem_of_getElem? (i := 35) rfl)) (ty := .int) (by decide) rfl rfl (g := (mkF m 6 #[.val (.ref a), .val (.int n), .val (.ref i), .val (.ref nm), .val (.ref ob), .val (.int sv), .val (.int l_)] [(.int n), (.ref a)])) rfl rfl (hb hby own_d9_6)
  have K4 : Keep h0 h3 [a] := Keep.of_wr W3
  have zzK4 : h0.size ≤ h3.size := K4.1
  have oo5 : Old Z n0 h3 := O0.keep K4 (allS (by omega : n0 ≤ a) all0)
  have kt6 : Keep h0 h3 [a] := KT0.trans K4 (allS (Or.inl (List.mem_of_getElem? (i := 0) rfl)) all0)
  have f7 : Fld Z h3 a "com/example/vestledger/vestledger/plan/Fund" "number" "I" (.int n) := F_number.same W3
  have f8 : Fld Z h3 a "com/example/vestledger/vestledger/plan/Fund" "id" "Ljava/lang/String;" .null := F_id.other W3 (Or.inr (slot_ne (Or.inr (hw _ (List.mem_of_getElem? (i := 54) rfl))) (Or.inr (hw _ (List.mem_of_getElem? (i := 52) rfl))) (by decide) (t := (.object "java/lang/String")) (t' := .int) (by decide) (by decide)))
  have f9 : Fld Z h3 a "com/example/vestledger/vestledger/plan/Fund" "name" "Ljava/lang/String;" .null := F_name.other W3 (Or.inr (slot_ne (Or.inr (hw _ (List.mem_of_getElem? (i := 56) rfl))) (Or.inr (hw _ (List.mem_of_getElem? (i := 52) rfl))) (by decide) (t := (.object "java/lang/String")) (t' := .int) (by decide) (by decide)))
  have f10 : Fld Z h3 a "com/example/vestledger/vestledger/plan/Fund" "fixedPrice" "Ljava/util/Optional;" .null := F_fixedPrice.other W3 (Or.inr (slot_ne (Or.inr (hw _ (List.mem_of_getElem? (i := 58) rfl))) (Or.inr (hw _ (List.mem_of_getElem? (i := 52) rfl))) (by decide) (t := (.object "java/util/Optional")) (t' := .int) (by decide) (by decide)))
  have f11 : Fld Z h3 a "com/example/vestledger/vestledger/plan/Fund" "companyStock" "Z" (.int (0 : Int32)) := F_companyStock.other W3 (Or.inr (slot_ne (Or.inr (hw _ (List.mem_of_getElem? (i := 60) rfl))) (Or.inr (hw _ (List.mem_of_getElem? (i := 52) rfl))) (by decide) (t := .boolean) (t' := .int) (by decide) (by decide)))
  have f12 : Fld Z h3 a "com/example/vestledger/vestledger/plan/Fund" "line" "I" (.int (0 : Int32)) := F_line.other W3 (Or.inr (slot_ne (Or.inr (hw _ (List.mem_of_getElem? (i := 62) rfl))) (Or.inr (hw _ (List.mem_of_getElem? (i := 52) rfl))) (by decide) (t := .int) (t' := .int) (by decide) (by decide)))
  have N13 := Fr.snoc X3 N2 (by omega : n0 ≤ a)
  refine own_by (T' := T3) (g' := (mkF m 9 #[.val (.ref a), .val (.int n), .val (.ref i), .val (.ref nm), .val (.ref ob), .val (.int sv), .val (.int l_)] [])) st3 ?_
  refine own_by (T' := T3) (g' := (mkF m 10 #[.val (.ref a), .val (.int n), .val (.ref i), .val (.ref nm), .val (.ref ob), .val (.int sv), .val (.int l_)] [(.ref a)])) (fun _ kt_ => XS.aloadN X3.here hx rfl (hb hby own_d9_9) rfl rfl kt_) ?_
  refine own_by (T' := T3) (g' := (mkF m 11 #[.val (.ref a), .val (.int n), .val (.ref i), .val (.ref nm), .val (.ref ob), .val (.int sv), .val (.int l_)] [(.ref i), (.ref a)])) (fun _ kt_ => XS.aloadN X3.here hx rfl (hb hby own_d9_10) rfl rfl kt_) ?_
  have f14 : Exa Z h3 a "com/example/vestledger/vestledger/plan/Fund" := (E_a.keep K4)
  obtain ⟨T15, h15, X15, e15, W15, st15⟩ := putF X3 hx hZ hown (host := "") (Or.inl (hw _ (List.mem_of_getElem? (i := 53) rfl))) Via.refl e3 f8 f14 (Or.inr ⟨(hw _ (List.mem_of_getElem? (i := 54) rfl)), rfl, hnm⟩) (hw _ (List.mem_of_getElem? (i := 35) rfl)) (ty := (.object "java/lang/String")) (by decide) rfl rfl (g := (mkF m 11 #[.val (.ref a), .val (.int n), .val (.ref i), .val (.ref nm), .val (.ref ob), .val (.int sv), .val (.int l_)] [(.ref i), (.ref a)])) rfl rfl (hb hby own_d9_11)
  have K16 : Keep h3 h15 [a] := Keep.of_wr W15
  have zzK16 : h3.size ≤ h15.size := K16.1
  have oo17 : Old Z n0 h15 := oo5.keep K16 (allS (by omega : n0 ≤ a) all0)
  have kt18 : Keep h0 h15 [a] := kt6.trans K16 (allS (Or.inl (List.mem_of_getElem? (i := 0) rfl)) all0)
  have f19 : Fld Z h15 a "com/example/vestledger/vestledger/plan/Fund" "number" "I" (.int n) := f7.other W15 (Or.inr (slot_ne (Or.inr (hw _ (List.mem_of_getElem? (i := 52) rfl))) (Or.inr (hw _ (List.mem_of_getElem? (i := 54) rfl))) (by decide) (t := .int) (t' := (.object "java/lang/String")) (by decide) (by decide)))
  have f20 : Fld Z h15 a "com/example/vestledger/vestledger/plan/Fund" "id" "Ljava/lang/String;" (.ref i) := f8.same W15
  have f21 : Fld Z h15 a "com/example/vestledger/vestledger/plan/Fund" "name" "Ljava/lang/String;" .null := f9.other W15 (Or.inr (slot_ne (Or.inr (hw _ (List.mem_of_getElem? (i := 56) rfl))) (Or.inr (hw _ (List.mem_of_getElem? (i := 54) rfl))) (by decide) (t := (.object "java/lang/String")) (t' := (.object "java/lang/String")) (by decide) (by decide)))
  have f22 : Fld Z h15 a "com/example/vestledger/vestledger/plan/Fund" "fixedPrice" "Ljava/util/Optional;" .null := f10.other W15 (Or.inr (slot_ne (Or.inr (hw _ (List.mem_of_getElem? (i := 58) rfl))) (Or.inr (hw _ (List.mem_of_getElem? (i := 54) rfl))) (by decide) (t := (.object "java/util/Optional")) (t' := (.object "java/lang/String")) (by decide) (by decide)))
  have f23 : Fld Z h15 a "com/example/vestledger/vestledger/plan/Fund" "companyStock" "Z" (.int (0 : Int32)) := f11.other W15 (Or.inr (slot_ne (Or.inr (hw _ (List.mem_of_getElem? (i := 60) rfl))) (Or.inr (hw _ (List.mem_of_getElem? (i := 54) rfl))) (by decide) (t := .boolean) (t' := (.object "java/lang/String")) (by decide) (by decide)))
  have f24 : Fld Z h15 a "com/example/vestledger/vestledger/plan/Fund" "line" "I" (.int (0 : Int32)) := f12.other W15 (Or.inr (slot_ne (Or.inr (hw _ (List.mem_of_getElem? (i := 62) rfl))) (Or.inr (hw _ (List.mem_of_getElem? (i := 54) rfl))) (by decide) (t := .int) (t' := (.object "java/lang/String")) (by decide) (by decide)))
  have N25 := Fr.snoc X15 N13 (by omega : n0 ≤ a)
  refine own_by (T' := T15) (g' := (mkF m 14 #[.val (.ref a), .val (.int n), .val (.ref i), .val (.ref nm), .val (.ref ob), .val (.int sv), .val (.int l_)] [])) st15 ?_
  refine own_by (T' := T15) (g' := (mkF m 15 #[.val (.ref a), .val (.int n), .val (.ref i), .val (.ref nm), .val (.ref ob), .val (.int sv), .val (.int l_)] [(.ref a)])) (fun _ kt_ => XS.aloadN X15.here hx rfl (hb hby own_d9_14) rfl rfl kt_) ?_
  refine own_by (T' := T15) (g' := (mkF m 16 #[.val (.ref a), .val (.int n), .val (.ref i), .val (.ref nm), .val (.ref ob), .val (.int sv), .val (.int l_)] [(.ref nm), (.ref a)])) (fun _ kt_ => XS.aloadN X15.here hx rfl (hb hby own_d9_15) rfl rfl kt_) ?_
  have f26 : Exa Z h15 a "com/example/vestledger/vestledger/plan/Fund" := (f14.keep K16)
  obtain ⟨T27, h27, X27, e27, W27, st27⟩ := putF X15 hx hZ hown (host := "") (Or.inl (hw _ (List.mem_of_getElem? (i := 55) rfl))) Via.refl e15 f21 f26 (Or.inr ⟨(hw _ (List.mem_of_getElem? (i := 56) rfl)), rfl, hnm⟩) (hw _ (List.mem_of_getElem? (i := 35) rfl)) (ty := (.object "java/lang/String")) (by decide) rfl rfl (g := (mkF m 16 #[.val (.ref a), .val (.int n), .val (.ref i), .val (.ref nm), .val (.ref ob), .val (.int sv), .val (.int l_)] [(.ref nm), (.ref a)])) rfl rfl (hb hby own_d9_16)
  have K28 : Keep h15 h27 [a] := Keep.of_wr W27
  have zzK28 : h15.size ≤ h27.size := K28.1
  have oo29 : Old Z n0 h27 := oo17.keep K28 (allS (by omega : n0 ≤ a) all0)
  have kt30 : Keep h0 h27 [a] := kt18.trans K28 (allS (Or.inl (List.mem_of_getElem? (i := 0) rfl)) all0)
  have f31 : Fld Z h27 a "com/example/vestledger/vestledger/plan/Fund" "number" "I" (.int n) := f19.other W27 (Or.inr (slot_ne (Or.inr (hw _ (List.mem_of_getElem? (i := 52) rfl))) (Or.inr (hw _ (List.mem_of_getElem? (i := 56) rfl))) (by decide) (t := .int) (t' := (.object "java/lang/String")) (by decide) (by decide)))
  have f32 : Fld Z h27 a "com/example/vestledger/vestledger/plan/Fund" "id" "Ljava/lang/String;" (.ref i) := f20.other W27 (Or.inr (slot_ne (Or.inr (hw _ (List.mem_of_getElem? (i := 54) rfl))) (Or.inr (hw _ (List.mem_of_getElem? (i := 56) rfl))) (by decide) (t := (.object "java/lang/String")) (t' := (.object "java/lang/String")) (by decide) (by decide)))
  have f33 : Fld Z h27 a "com/example/vestledger/vestledger/plan/Fund" "name" "Ljava/lang/String;" (.ref nm) := f21.same W27
  have f34 : Fld Z h27 a "com/example/vestledger/vestledger/plan/Fund" "fixedPrice" "Ljava/util/Optional;" .null := f22.other W27 (Or.inr (slot_ne (Or.inr (hw _ (List.mem_of_getElem? (i := 58) rfl))) (Or.inr (hw _ (List.mem_of_getElem? (i := 56) rfl))) (by decide) (t := (.object "java/util/Optional")) (t' := (.object "java/lang/String")) (by decide) (by decide)))
  have f35 : Fld Z h27 a "com/example/vestledger/vestledger/plan/Fund" "companyStock" "Z" (.int (0 : Int32)) := f23.other W27 (Or.inr (slot_ne (Or.inr (hw _ (List.mem_of_getElem? (i := 60) rfl))) (Or.inr (hw _ (List.mem_of_getElem? (i := 56) rfl))) (by decide) (t := .boolean) (t' := (.object "java/lang/String")) (by decide) (by decide)))
  have f36 : Fld Z h27 a "com/example/vestledger/vestledger/plan/Fund" "line" "I" (.int (0 : Int32)) := f24.other W27 (Or.inr (slot_ne (Or.inr (hw _ (List.mem_of_getElem? (i := 62) rfl))) (Or.inr (hw _ (List.mem_of_getElem? (i := 56) rfl))) (by decide) (t := .int) (t' := (.object "java/lang/String")) (by decide) (by decide)))
  have N37 := Fr.snoc X27 N25 (by omega : n0 ≤ a)
  refine own_by (T' := T27) (g' := (mkF m 19 #[.val (.ref a), .val (.int n), .val (.ref i), .val (.ref nm), .val (.ref ob), .val (.int sv), .val (.int l_)] [])) st27 ?_
  refine own_by (T' := T27) (g' := (mkF m 20 #[.val (.ref a), .val (.int n), .val (.ref i), .val (.ref nm), .val (.ref ob), .val (.int sv), .val (.int l_)] [(.ref a)])) (fun _ kt_ => XS.aloadN X27.here hx rfl (hb hby own_d9_19) rfl rfl kt_) ?_
  refine own_by (T' := T27) (g' := (mkF m 22 #[.val (.ref a), .val (.int n), .val (.ref i), .val (.ref nm), .val (.ref ob), .val (.int sv), .val (.int l_)] [(.ref ob), (.ref a)])) (fun _ kt_ => XS.aload X27.here hx rfl (hb hby own_d9_20) rfl rfl kt_) ?_
  have f38 : Exa Z h27 a "com/example/vestledger/vestledger/plan/Fund" := (f26.keep K28)
  obtain ⟨T39, h39, X39, e39, W39, st39⟩ := putF X27 hx hZ hown (host := "") (Or.inl (hw _ (List.mem_of_getElem? (i := 57) rfl))) Via.refl e27 f34 f38 (Or.inr ⟨(hw _ (List.mem_of_getElem? (i := 58) rfl)), rfl, hnm⟩) (hw _ (List.mem_of_getElem? (i := 35) rfl)) (ty := (.object "java/util/Optional")) (by decide) rfl rfl (g := (mkF m 22 #[.val (.ref a), .val (.int n), .val (.ref i), .val (.ref nm), .val (.ref ob), .val (.int sv), .val (.int l_)] [(.ref ob), (.ref a)])) rfl rfl (hb hby own_d9_22)
  have K40 : Keep h27 h39 [a] := Keep.of_wr W39
  have zzK40 : h27.size ≤ h39.size := K40.1
  have oo41 : Old Z n0 h39 := oo29.keep K40 (allS (by omega : n0 ≤ a) all0)
  have kt42 : Keep h0 h39 [a] := kt30.trans K40 (allS (Or.inl (List.mem_of_getElem? (i := 0) rfl)) all0)
  have f43 : Fld Z h39 a "com/example/vestledger/vestledger/plan/Fund" "number" "I" (.int n) := f31.other W39 (Or.inr (slot_ne (Or.inr (hw _ (List.mem_of_getElem? (i := 52) rfl))) (Or.inr (hw _ (List.mem_of_getElem? (i := 58) rfl))) (by decide) (t := .int) (t' := (.object "java/util/Optional")) (by decide) (by decide)))
  have f44 : Fld Z h39 a "com/example/vestledger/vestledger/plan/Fund" "id" "Ljava/lang/String;" (.ref i) := f32.other W39 (Or.inr (slot_ne (Or.inr (hw _ (List.mem_of_getElem? (i := 54) rfl))) (Or.inr (hw _ (List.mem_of_getElem? (i := 58) rfl))) (by decide) (t := (.object "java/lang/String")) (t' := (.object "java/util/Optional")) (by decide) (by decide)))
  have f45 : Fld Z h39 a "com/example/vestledger/vestledger/plan/Fund" "name" "Ljava/lang/String;" (.ref nm) := f33.other W39 (Or.inr (slot_ne (Or.inr (hw _ (List.mem_of_getElem? (i := 56) rfl))) (Or.inr (hw _ (List.mem_of_getElem? (i := 58) rfl))) (by decide) (t := (.object "java/lang/String")) (t' := (.object "java/util/Optional")) (by decide) (by decide)))
  have f46 : Fld Z h39 a "com/example/vestledger/vestledger/plan/Fund" "fixedPrice" "Ljava/util/Optional;" (.ref ob) := f34.same W39
  have f47 : Fld Z h39 a "com/example/vestledger/vestledger/plan/Fund" "companyStock" "Z" (.int (0 : Int32)) := f35.other W39 (Or.inr (slot_ne (Or.inr (hw _ (List.mem_of_getElem? (i := 60) rfl))) (Or.inr (hw _ (List.mem_of_getElem? (i := 58) rfl))) (by decide) (t := .boolean) (t' := (.object "java/util/Optional")) (by decide) (by decide)))
  have f48 : Fld Z h39 a "com/example/vestledger/vestledger/plan/Fund" "line" "I" (.int (0 : Int32)) := f36.other W39 (Or.inr (slot_ne (Or.inr (hw _ (List.mem_of_getElem? (i := 62) rfl))) (Or.inr (hw _ (List.mem_of_getElem? (i := 58) rfl))) (by decide) (t := .int) (t' := (.object "java/util/Optional")) (by decide) (by decide)))
  have N49 := Fr.snoc X39 N37 (by omega : n0 ≤ a)
  refine own_by (T' := T39) (g' := (mkF m 25 #[.val (.ref a), .val (.int n), .val (.ref i), .val (.ref nm), .val (.ref ob), .val (.int sv), .val (.int l_)] [])) st39 ?_
  refine own_by (T' := T39) (g' := (mkF m 26 #[.val (.ref a), .val (.int n), .val (.ref i), .val (.ref nm), .val (.ref ob), .val (.int sv), .val (.int l_)] [(.ref a)])) (fun _ kt_ => XS.aloadN X39.here hx rfl (hb hby own_d9_25) rfl rfl kt_) ?_
  refine own_by (T' := T39) (g' := (mkF m 28 #[.val (.ref a), .val (.int n), .val (.ref i), .val (.ref nm), .val (.ref ob), .val (.int sv), .val (.int l_)] [(.int sv), (.ref a)])) (fun _ kt_ => XS.iload X39.here hx rfl (hb hby own_d9_26) rfl kt_) ?_
  have f50 : Exa Z h39 a "com/example/vestledger/vestledger/plan/Fund" := (f38.keep K40)
  obtain ⟨T51, h51, X51, e51, W51, st51⟩ := putFN X39 hx hZ hown (hw _ (List.mem_of_getElem? (i := 59) rfl)) Via.refl e39 f47 f50 (Or.inr ⟨(hw _ (List.mem_of_getElem? (i := 60) rfl)), rfl, hnm⟩) (hw _ (List.mem_of_getElem? (i := 35) rfl)) (ty := .boolean) (v' := (.int (sv &&& 1))) (by decide) rfl (fits_nar_bool _) (g := (mkF m 28 #[.val (.ref a), .val (.int n), .val (.ref i), .val (.ref nm), .val (.ref ob), .val (.int sv), .val (.int l_)] [(.int sv), (.ref a)])) rfl rfl (hb hby own_d9_28)
  have K52 : Keep h39 h51 [a] := Keep.of_wr W51
  have zzK52 : h39.size ≤ h51.size := K52.1
  have oo53 : Old Z n0 h51 := oo41.keep K52 (allS (by omega : n0 ≤ a) all0)
  have kt54 : Keep h0 h51 [a] := kt42.trans K52 (allS (Or.inl (List.mem_of_getElem? (i := 0) rfl)) all0)
  have f55 : Fld Z h51 a "com/example/vestledger/vestledger/plan/Fund" "number" "I" (.int n) := f43.other W51 (Or.inr (slot_ne (Or.inr (hw _ (List.mem_of_getElem? (i := 52) rfl))) (Or.inr (hw _ (List.mem_of_getElem? (i := 60) rfl))) (by decide) (t := .int) (t' := .boolean) (by decide) (by decide)))
  have f56 : Fld Z h51 a "com/example/vestledger/vestledger/plan/Fund" "id" "Ljava/lang/String;" (.ref i) := f44.other W51 (Or.inr (slot_ne (Or.inr (hw _ (List.mem_of_getElem? (i := 54) rfl))) (Or.inr (hw _ (List.mem_of_getElem? (i := 60) rfl))) (by decide) (t := (.object "java/lang/String")) (t' := .boolean) (by decide) (by decide)))
  have f57 : Fld Z h51 a "com/example/vestledger/vestledger/plan/Fund" "name" "Ljava/lang/String;" (.ref nm) := f45.other W51 (Or.inr (slot_ne (Or.inr (hw _ (List.mem_of_getElem? (i := 56) rfl))) (Or.inr (hw _ (List.mem_of_getElem? (i := 60) rfl))) (by decide) (t := (.object "java/lang/String")) (t' := .boolean) (by decide) (by decide)))
  have f58 : Fld Z h51 a "com/example/vestledger/vestledger/plan/Fund" "fixedPrice" "Ljava/util/Optional;" (.ref ob) := f46.other W51 (Or.inr (slot_ne (Or.inr (hw _ (List.mem_of_getElem? (i := 58) rfl))) (Or.inr (hw _ (List.mem_of_getElem? (i := 60) rfl))) (by decide) (t := (.object "java/util/Optional")) (t' := .boolean) (by decide) (by decide)))
  have f59 : Fld Z h51 a "com/example/vestledger/vestledger/plan/Fund" "companyStock" "Z" (.int (sv &&& 1)) := f47.same W51
  have f60 : Fld Z h51 a "com/example/vestledger/vestledger/plan/Fund" "line" "I" (.int (0 : Int32)) := f48.other W51 (Or.inr (slot_ne (Or.inr (hw _ (List.mem_of_getElem? (i := 62) rfl))) (Or.inr (hw _ (List.mem_of_getElem? (i := 60) rfl))) (by decide) (t := .int) (t' := .boolean) (by decide) (by decide)))
  have N61 := Fr.snoc X51 N49 (by omega : n0 ≤ a)
  refine own_by (T' := T51) (g' := (mkF m 31 #[.val (.ref a), .val (.int n), .val (.ref i), .val (.ref nm), .val (.ref ob), .val (.int sv), .val (.int l_)] [])) st51 ?_
  refine own_by (T' := T51) (g' := (mkF m 32 #[.val (.ref a), .val (.int n), .val (.ref i), .val (.ref nm), .val (.ref ob), .val (.int sv), .val (.int l_)] [(.ref a)])) (fun _ kt_ => XS.aloadN X51.here hx rfl (hb hby own_d9_31) rfl rfl kt_) ?_
  refine own_by (T' := T51) (g' := (mkF m 34 #[.val (.ref a), .val (.int n), .val (.ref i), .val (.ref nm), .val (.ref ob), .val (.int sv), .val (.int l_)] [(.int l_), (.ref a)])) (fun _ kt_ => XS.iload X51.here hx rfl (hb hby own_d9_32) rfl kt_) ?_
  have f62 : Exa Z h51 a "com/example/vestledger/vestledger/plan/Fund" := (f50.keep K52)
  obtain ⟨T63, h63, X63, e63, W63, st63⟩ := putF X51 hx hZ hown (host := "") (Or.inl (hw _ (List.mem_of_getElem? (i := 61) rfl))) Via.refl e51 f60 f62 (Or.inr ⟨(hw _ (List.mem_of_getElem? (i := 62) rfl)), rfl, hnm⟩) (hw _ (List.mem_of_getElem? (i := 35) rfl)) (ty := .int) (by decide) rfl rfl (g := (mkF m 34 #[.val (.ref a), .val (.int n), .val (.ref i), .val (.ref nm), .val (.ref ob), .val (.int sv), .val (.int l_)] [(.int l_), (.ref a)])) rfl rfl (hb hby own_d9_34)
  have K64 : Keep h51 h63 [a] := Keep.of_wr W63
  have zzK64 : h51.size ≤ h63.size := K64.1
  have oo65 : Old Z n0 h63 := oo53.keep K64 (allS (by omega : n0 ≤ a) all0)
  have kt66 : Keep h0 h63 [a] := kt54.trans K64 (allS (Or.inl (List.mem_of_getElem? (i := 0) rfl)) all0)
  have f67 : Fld Z h63 a "com/example/vestledger/vestledger/plan/Fund" "number" "I" (.int n) := f55.other W63 (Or.inr (slot_ne (Or.inr (hw _ (List.mem_of_getElem? (i := 52) rfl))) (Or.inr (hw _ (List.mem_of_getElem? (i := 62) rfl))) (by decide) (t := .int) (t' := .int) (by decide) (by decide)))
  have f68 : Fld Z h63 a "com/example/vestledger/vestledger/plan/Fund" "id" "Ljava/lang/String;" (.ref i) := f56.other W63 (Or.inr (slot_ne (Or.inr (hw _ (List.mem_of_getElem? (i := 54) rfl))) (Or.inr (hw _ (List.mem_of_getElem? (i := 62) rfl))) (by decide) (t := (.object "java/lang/String")) (t' := .int) (by decide) (by decide)))
  have f69 : Fld Z h63 a "com/example/vestledger/vestledger/plan/Fund" "name" "Ljava/lang/String;" (.ref nm) := f57.other W63 (Or.inr (slot_ne (Or.inr (hw _ (List.mem_of_getElem? (i := 56) rfl))) (Or.inr (hw _ (List.mem_of_getElem? (i := 62) rfl))) (by decide) (t := (.object "java/lang/String")) (t' := .int) (by decide) (by decide)))
  have f70 : Fld Z h63 a "com/example/vestledger/vestledger/plan/Fund" "fixedPrice" "Ljava/util/Optional;" (.ref ob) := f58.other W63 (Or.inr (slot_ne (Or.inr (hw _ (List.mem_of_getElem? (i := 58) rfl))) (Or.inr (hw _ (List.mem_of_getElem? (i := 62) rfl))) (by decide) (t := (.object "java/util/Optional")) (t' := .int) (by decide) (by decide)))
  have f71 : Fld Z h63 a "com/example/vestledger/vestledger/plan/Fund" "companyStock" "Z" (.int (sv &&& 1)) := f59.other W63 (Or.inr (slot_ne (Or.inr (hw _ (List.mem_of_getElem? (i := 60) rfl))) (Or.inr (hw _ (List.mem_of_getElem? (i := 62) rfl))) (by decide) (t := .boolean) (t' := .int) (by decide) (by decide)))
  have f72 : Fld Z h63 a "com/example/vestledger/vestledger/plan/Fund" "line" "I" (.int l_) := f60.same W63
  have N73 := Fr.snoc X63 N61 (by omega : n0 ≤ a)
  refine own_by (T' := T63) (g' := (mkF m 37 #[.val (.ref a), .val (.int n), .val (.ref i), .val (.ref nm), .val (.ref ob), .val (.int sv), .val (.int l_)] [])) st63 ?_
  obtain ⟨fs74, hr74, hrun74, hended74, hW74, hsame74⟩ := X63.leave (v := none) (fun _ => rfl)
  refine ⟨_, _, X63.returnOut hx Bd.returns (hb hby own_d9_37) hr74, hrun74, hended74, _, _, rfl, ?_, ⟨_, rfl⟩, hW74, hsame74.mono (by decide) (by decide)⟩
  show Q_rmFI Z wC cC zC wO a n i nm ob sv l_ h0 n0 _ T63.heap _
  rw [e63]
  exact ⟨rfl, N73, kt66, f67, f68, f69, f70, f71, f72⟩
theorem own_d15_0 : decode prog_70_method_1_code 0 = .ok (.aload_n 0, 1) := by decide +kernel
theorem own_d15_1 : decode prog_70_method_1_code 1 = .ok (.invokespecial 1, 3) := by decide +kernel
theorem own_d15_4 : decode prog_70_method_1_code 4 = .ok (.aload_n 0, 1) := by decide +kernel
theorem own_d15_5 : decode prog_70_method_1_code 5 = .ok (.aload_n 1, 1) := by decide +kernel
theorem own_d15_6 : decode prog_70_method_1_code 6 = .ok (.putfield 7, 3) := by decide +kernel
theorem own_d15_9 : decode prog_70_method_1_code 9 = .ok (.aload_n 0, 1) := by decide +kernel
theorem own_d15_10 : decode prog_70_method_1_code 10 = .ok (.iload_n 2, 1) := by decide +kernel
theorem own_d15_11 : decode prog_70_method_1_code 11 = .ok (.putfield 13, 3) := by decide +kernel
theorem own_d15_14 : decode prog_70_method_1_code 14 = .ok (.return_, 1) := by decide +kernel
theorem own_pn_com_example_vestledger_vestledger_plan_PaymentElection : plainName "com/example/vestledger/vestledger/plan/PaymentElection" = true := by first | (simp [plainName, overriddenIn]; done) | decide +kernel
theorem own_ef_rmPI (m : MethodId) (x0 : Addr) (x1 : Int32) : entryFrame m #[(.ref x0), .null, (.int x1)] 3 = mkF m 0 #[.val (.ref x0), .val .null, .val (.int x1)] [] := by first | (simp [entryFrame, mkF, argsToLocals, Value.category]; done) | rfl
def Q_rmPI (Z : State) (wC : Addr) (cC : Cell) (zC : Int32) (wO : Addr) (a : Addr) (n : Int32) (h0 : Heap) (n0 : Nat) (vv_ : Option Value) (hh_ : Heap) (LL_ : List Loc) : Prop := vv_ = none ∧ Fr n0 LL_ ∧ Keep h0 hh_ [a] ∧ Fld Z hh_ a "com/example/vestledger/vestledger/plan/PaymentElection" "form" "Lcom/example/vestledger/vestledger/plan/PaymentForm;" .null ∧ Fld Z hh_ a "com/example/vestledger/vestledger/plan/PaymentElection" "payments" "I" (.int n)
set_option maxRecDepth 65536 in
set_option maxHeartbeats 40000000 in
theorem rmPI (l : Launch) (Z : State) (a0 : Array Value) (hw : ∀ d ∈ tables_1, d.before a0 Z = true) (ws : List Jvm.Cond) (wC : Addr) (cC : Cell) (zC : Int32) (wO : Addr) (GS : Glob Z wC cC zC wO) (a : Addr) (n : Int32) (h0 : Heap) (n0 : Nat) (Z0 : n0 ≤ h0.size) (O0 : Old Z n0 h0) (E_a : Exa Z h0 a "com/example/vestledger/vestledger/plan/PaymentElection") (g_a : n0 ≤ a) (F_form : Fld Z h0 a "com/example/vestledger/vestledger/plan/PaymentElection" "form" "Lcom/example/vestledger/vestledger/plan/PaymentForm;" .null) (F_payments : Fld Z h0 a "com/example/vestledger/vestledger/plan/PaymentElection" "payments" "I" (.int (0 : Int32))) :
    MetFree l (⟨"com/example/vestledger/vestledger/plan/PaymentElection", "<init>", "(Lcom/example/vestledger/vestledger/plan/PaymentForm;I)V"⟩ : MethodName) (head1 (Jvm.Cond.code (⟨"com/example/vestledger/vestledger/plan/PaymentElection", "<init>", "(Lcom/example/vestledger/vestledger/plan/PaymentForm;I)V"⟩ : MethodName) prog_70_method_1_code 3 none :: ws) ({ frames := 2, cells := 0, slots := 0, locals := 24 } : Room)) (fun aa_ UU_ => aa_ = #[(.ref a), .null, (.int n)] ∧ Z.Warmed39 UU_.vm ∧ UU_.heap = h0) (fun _ _ _ _ _ => True) (fun _ UU_ oo_ UV_ => ∃ vv_ LL_, oo_ = .returned vv_ ∧ Q_rmPI Z wC cC zC wO a n h0 n0 vv_ UV_.heap LL_ ∧ FrameEnd UU_ oo_ UV_ LL_ ({ frames := 2, cells := 0, slots := 0, locals := 24 } : Room).cells ({ frames := 2, cells := 0, slots := 0, locals := 24 } : Room).slots) := by
  refine MetFree.of_bodySF (plainFor_of_name own_pn_com_example_vestledger_vestledger_plan_PaymentElection) hisR ?_
  intro p e s m args below meth c s₁ Bd hml0 hP hK
  obtain ⟨rfl, hZ, hh⟩ := hP
  have hx := Bd.exec
  have hby := Bd.bytes
  have hml : c.maxLocals = 3 := hml0
  have hown : s.vm.findClass "com/example/vestledger/vestledger/plan/PaymentElection" = some m.cls := findClass_of_methodNamed Bd.named
  have hnm := (name_of_methodNamed Bd.named Bd.method).1
  have X0 : Stand p l e ({ frames := 2, cells := 0, slots := 0, locals := 24 } : Room) s m #[(.ref a), .null, (.int n)] below meth c s₁ [] 0 0 := Stand.of_body Bd
  have e0 : s₁.heap = h0 := by rw [← hh, Bd.state]; rfl
  have N0 := Fr.nil n0
  have hn0 : Z.heap.size = n0 := O0.1
  have KT0 : Keep h0 h0 [a] := Keep.refl _ _
  refine own_enter (Φ := fun oo_ UV_ => ∃ vv_ LL_, oo_ = .returned vv_ ∧ Q_rmPI Z wC cC zC wO a n h0 n0 vv_ UV_.heap LL_ ∧ FrameEnd s oo_ UV_ LL_ ({ frames := 2, cells := 0, slots := 0, locals := 24 } : Room).cells ({ frames := 2, cells := 0, slots := 0, locals := 24 } : Room).slots) (own_ef_rmPI m a n) ?_
  refine own_by (T' := s₁) (g' := (mkF m 1 #[.val (.ref a), .val .null, .val (.int n)] [(.ref a)])) (fun _ kt_ => XS.aloadN X0.here hx rfl (hb hby own_d15_0) rfl rfl kt_) ?_
  obtain ⟨_, _, ⟨T1, L1, k1, n1⟩, -, X1, ⟨Lc1, hQ1, l1, y1, z1⟩, st1⟩ := X0.specialBack hx (y := (⟨"java/lang/Record", "<init>", "()V"⟩ : MethodName)) rfl hown (mvT hZ (hw _ (List.mem_of_getElem? (i := 92) rfl))) (mvT hZ (hw _ (List.mem_of_getElem? (i := 46) rfl))) (mvT hZ (hw _ (List.mem_of_getElem? (i := 49) rfl))) (by decide) (backOf (W := 0) (rmRec l Z a0 hw [] wC cC zC wO GS a h0 n0 (by omega) O0 ) hZ (hw _ (List.mem_of_getElem? (i := 49) rfl)) (hw _ (List.mem_of_getElem? (i := 48) rfl)) (by decide) (by decide)) (g := (mkF m 1 #[.val (.ref a), .val .null, .val (.int n)] [(.ref a)])) rfl (by rw [hml]; rfl) (Steps.refl _) (a := a) (argsL := []) (rest := []) (lenOf own_pd_0 rfl) rfl (by show 2 * 0 + _ ≤ _; exact Nat.le_of_eq rfl) (hb hby own_d15_1) (fun _ _ => ⟨rfl, e0, (by decide : 0 + 0 ≤ _), (by decide : 0 + 0 ≤ _)⟩)
  dsimp only [Pt.U, Pt.locs, Pt.cells, Pt.slots] at X1 l1 y1 z1 st1 hQ1
  subst l1 y1 z1
  obtain ⟨rfl, N1q, e1⟩ := hQ1
  have N2 := Fr.app N0 N1q
  refine own_by (T' := T1) (g' := (mkF m 4 #[.val (.ref a), .val .null, .val (.int n)] [])) (fun _ kt_ => st1.trans kt_) ?_
  refine own_by (T' := T1) (g' := (mkF m 5 #[.val (.ref a), .val .null, .val (.int n)] [(.ref a)])) (fun _ kt_ => XS.aloadN X1.here hx rfl (hb hby own_d15_4) rfl rfl kt_) ?_
  refine own_by (T' := T1) (g' := (mkF m 6 #[.val (.ref a), .val .null, .val (.int n)] [.null, (.ref a)])) (fun _ kt_ => XS.aloadN X1.here hx rfl (hb hby own_d15_5) rfl rfl kt_) ?_
  obtain ⟨T3, h3, X3, e3, W3, st3⟩ := putF X1 hx hZ hown (host := "") (Or.inl (hw _ (List.mem_of_getElem? (i := 93) rfl))) Via.refl e1 F_form E_a (Or.inr ⟨(hw _ (List.mem_of_getElem? (i := 94) rfl)), rfl, hnm⟩) (hw _ (List.mem_of_getElem? (i := 87) rfl)) (ty := (.object "com/example/vestledger/vestledger/plan/PaymentForm")) (by decide) rfl rfl (g := (mkF m 6 #[.val (.ref a), .val .null, .val (.int n)] [.null, (.ref a)])) rfl rfl (hb hby own_d15_6)
  have K4 : Keep h0 h3 [a] := Keep.of_wr W3
  have zzK4 : h0.size ≤ h3.size := K4.1
  have oo5 : Old Z n0 h3 := O0.keep K4 (allS (by omega : n0 ≤ a) all0)
  have kt6 : Keep h0 h3 [a] := KT0.trans K4 (allS (Or.inl (List.mem_of_getElem? (i := 0) rfl)) all0)
  have f7 : Fld Z h3 a "com/example/vestledger/vestledger/plan/PaymentElection" "form" "Lcom/example/vestledger/vestledger/plan/PaymentForm;" .null := F_form.same W3
  have f8 : Fld Z h3 a "com/example/vestledger/vestledger/plan/PaymentElection" "payments" "I" (.int (0 : Int32)) := F_payments.other W3 (Or.inr (slot_ne (Or.inr (hw _ (List.mem_of_getElem? (i := 96) rfl))) (Or.inr (hw _ (List.mem_of_getElem? (i := 94) rfl))) (by decide) (t := .int) (t' := (.object "com/example/vestledger/vestledger/plan/PaymentForm")) (by decide) (by decide)))
  have N9 := Fr.snoc X3 N2 (by omega : n0 ≤ a)
  refine own_by (T' := T3) (g' := (mkF m 9 #[.val (.ref a), .val .null, .val (.int n)] [])) st3 ?_
  refine own_by (T' := T3) (g' := (mkF m 10 #[.val (.ref a), .val .null, .val (.int n)] [(.ref a)])) (fun _ kt_ => XS.aloadN X3.here hx rfl (hb hby own_d15_9) rfl rfl kt_) ?_
  refine own_by (T' := T3) (g' := (mkF m 11 #[.val (.ref a), .val .null, .val (.int n)] [(.int n), (.ref a)])) (fun _ kt_ => XS.iloadN X3.here hx rfl (hb hby own_d15_10) rfl kt_) ?_
  have f10 : Exa Z h3 a "com/example/vestledger/vestledger/plan/PaymentElection" := (E_a.keep K4)
  obtain ⟨T11, h11, X11, e11, W11, st11⟩ := putF X3 hx hZ hown (host := "") (Or.inl (hw _ (List.mem_of_getElem? (i := 95) rfl))) Via.refl e3 f8 f10 (Or.inr ⟨(hw _ (List.mem_of_getElem? (i := 96) rfl)), rfl, hnm⟩) (hw _ (List.mem_of_getElem? (i := 87) rfl)) (ty := .int) (by decide) rfl rfl (g := (mkF m 11 #[.val (.ref a), .val .null, .val (.int n)] [(.int n), (.ref a)])) rfl rfl (hb hby own_d15_11)
  have K12 : Keep h3 h11 [a] := Keep.of_wr W11
  have zzK12 : h3.size ≤ h11.size := K12.1
  have oo13 : Old Z n0 h11 := oo5.keep K12 (allS (by omega : n0 ≤ a) all0)
  have kt14 : Keep h0 h11 [a] := kt6.trans K12 (allS (Or.inl (List.mem_of_getElem? (i := 0) rfl)) all0)
  have f15 : Fld Z h11 a "com/example/vestledger/vestledger/plan/PaymentElection" "form" "Lcom/example/vestledger/vestledger/plan/PaymentForm;" .null := f7.other W11 (Or.inr (slot_ne (Or.inr (hw _ (List.mem_of_getElem? (i := 94) rfl))) (Or.inr (hw _ (List.mem_of_getElem? (i := 96) rfl))) (by decide) (t := (.object "com/example/vestledger/vestledger/plan/PaymentForm")) (t' := .int) (by decide) (by decide)))
  have f16 : Fld Z h11 a "com/example/vestledger/vestledger/plan/PaymentElection" "payments" "I" (.int n) := f8.same W11
  have N17 := Fr.snoc X11 N9 (by omega : n0 ≤ a)
  refine own_by (T' := T11) (g' := (mkF m 14 #[.val (.ref a), .val .null, .val (.int n)] [])) st11 ?_
  obtain ⟨fs18, hr18, hrun18, hended18, hW18, hsame18⟩ := X11.leave (v := none) (fun _ => rfl)
  refine ⟨_, _, X11.returnOut hx Bd.returns (hb hby own_d15_14) hr18, hrun18, hended18, _, _, rfl, ?_, ⟨_, rfl⟩, hW18, hsame18.mono (by decide) (by decide)⟩
  show Q_rmPI Z wC cC zC wO a n h0 n0 _ T11.heap _
  rw [e11]
  exact ⟨rfl, N17, kt14, f15, f16⟩
theorem own_d16_0 : decode prog_53_method_1_code 0 = .ok (.aload_n 0, 1) := by decide +kernel
theorem own_d16_1 : decode prog_53_method_1_code 1 = .ok (.invokespecial 1, 3) := by decide +kernel
theorem own_d16_4 : decode prog_53_method_1_code 4 = .ok (.aload_n 0, 1) := by decide +kernel
theorem own_d16_5 : decode prog_53_method_1_code 5 = .ok (.aload_n 1, 1) := by decide +kernel
theorem own_d16_6 : decode prog_53_method_1_code 6 = .ok (.putfield 7, 3) := by decide +kernel
theorem own_d16_9 : decode prog_53_method_1_code 9 = .ok (.aload_n 0, 1) := by decide +kernel
theorem own_d16_10 : decode prog_53_method_1_code 10 = .ok (.aload_n 2, 1) := by decide +kernel
theorem own_d16_11 : decode prog_53_method_1_code 11 = .ok (.putfield 13, 3) := by decide +kernel
theorem own_d16_14 : decode prog_53_method_1_code 14 = .ok (.aload_n 0, 1) := by decide +kernel
theorem own_d16_15 : decode prog_53_method_1_code 15 = .ok (.aload_n 3, 1) := by decide +kernel
theorem own_d16_16 : decode prog_53_method_1_code 16 = .ok (.putfield 16, 3) := by decide +kernel
theorem own_d16_19 : decode prog_53_method_1_code 19 = .ok (.return_, 1) := by decide +kernel
theorem own_pn_com_example_vestledger_vestledger_plan_Elections_Part : plainName "com/example/vestledger/vestledger/plan/Elections$Part" = true := by first | (simp [plainName, overriddenIn]; done) | decide +kernel
theorem own_ef_rmPaI (m : MethodId) (x0 : Addr) (x1 : Addr) (x2 : Addr) (x3 : Addr) : entryFrame m #[(.ref x0), (.ref x1), (.ref x2), (.ref x3)] 4 = mkF m 0 #[.val (.ref x0), .val (.ref x1), .val (.ref x2), .val (.ref x3)] [] := by first | (simp [entryFrame, mkF, argsToLocals, Value.category]; done) | rfl
def Q_rmPaI (Z : State) (wC : Addr) (cC : Cell) (zC : Int32) (wO : Addr) (a : Addr) (x : Addr) (y : Addr) (z : Addr) (h0 : Heap) (n0 : Nat) (vv_ : Option Value) (hh_ : Heap) (LL_ : List Loc) : Prop := vv_ = none ∧ Fr n0 LL_ ∧ Keep h0 hh_ [a] ∧ Fld Z hh_ a "com/example/vestledger/vestledger/plan/Elections$Part" "planYear" "Ljava/util/Optional;" (.ref x) ∧ Fld Z hh_ a "com/example/vestledger/vestledger/plan/Elections$Part" "payment" "Ljava/util/Optional;" (.ref y) ∧ Fld Z hh_ a "com/example/vestledger/vestledger/plan/Elections$Part" "companyStock" "Ljava/util/Optional;" (.ref z)
set_option maxRecDepth 65536 in
set_option maxHeartbeats 40000000 in
theorem rmPaI (l : Launch) (Z : State) (a0 : Array Value) (hw : ∀ d ∈ tables_1, d.before a0 Z = true) (ws : List Jvm.Cond) (wC : Addr) (cC : Cell) (zC : Int32) (wO : Addr) (GS : Glob Z wC cC zC wO) (a : Addr) (x : Addr) (y : Addr) (z : Addr) (h0 : Heap) (n0 : Nat) (Z0 : n0 ≤ h0.size) (O0 : Old Z n0 h0) (E_a : Exa Z h0 a "com/example/vestledger/vestledger/plan/Elections$Part") (g_a : n0 ≤ a) (F_planYear : Fld Z h0 a "com/example/vestledger/vestledger/plan/Elections$Part" "planYear" "Ljava/util/Optional;" .null) (F_payment : Fld Z h0 a "com/example/vestledger/vestledger/plan/Elections$Part" "payment" "Ljava/util/Optional;" .null) (F_companyStock : Fld Z h0 a "com/example/vestledger/vestledger/plan/Elections$Part" "companyStock" "Ljava/util/Optional;" .null) :
    MetFree l (⟨"com/example/vestledger/vestledger/plan/Elections$Part", "<init>", "(Ljava/util/Optional;Ljava/util/Optional;Ljava/util/Optional;)V"⟩ : MethodName) (head1 (Jvm.Cond.code (⟨"com/example/vestledger/vestledger/plan/Elections$Part", "<init>", "(Ljava/util/Optional;Ljava/util/Optional;Ljava/util/Optional;)V"⟩ : MethodName) prog_53_method_1_code 4 none :: ws) ({ frames := 2, cells := 0, slots := 0, locals := 24 } : Room)) (fun aa_ UU_ => aa_ = #[(.ref a), (.ref x), (.ref y), (.ref z)] ∧ Z.Warmed39 UU_.vm ∧ UU_.heap = h0) (fun _ _ _ _ _ => True) (fun _ UU_ oo_ UV_ => ∃ vv_ LL_, oo_ = .returned vv_ ∧ Q_rmPaI Z wC cC zC wO a x y z h0 n0 vv_ UV_.heap LL_ ∧ FrameEnd UU_ oo_ UV_ LL_ ({ frames := 2, cells := 0, slots := 0, locals := 24 } : Room).cells ({ frames := 2, cells := 0, slots := 0, locals := 24 } : Room).slots) := by
  refine MetFree.of_bodySF (plainFor_of_name own_pn_com_example_vestledger_vestledger_plan_Elections_Part) hisR ?_
  intro p e s m args below meth c s₁ Bd hml0 hP hK
  obtain ⟨rfl, hZ, hh⟩ := hP
  have hx := Bd.exec
  have hby := Bd.bytes
  have hml : c.maxLocals = 4 := hml0
  have hown : s.vm.findClass "com/example/vestledger/vestledger/plan/Elections$Part" = some m.cls := findClass_of_methodNamed Bd.named
  have hnm := (name_of_methodNamed Bd.named Bd.method).1
  have X0 : Stand p l e ({ frames := 2, cells := 0, slots := 0, locals := 24 } : Room) s m #[(.ref a), (.ref x), (.ref y), (.ref z)] below meth c s₁ [] 0 0 := Stand.of_body Bd
  have e0 : s₁.heap = h0 := by rw [← hh, Bd.state]; rfl
  have N0 := Fr.nil n0
  have hn0 : Z.heap.size = n0 := O0.1
  have KT0 : Keep h0 h0 [a] := Keep.refl _ _
  refine own_enter (Φ := fun oo_ UV_ => ∃ vv_ LL_, oo_ = .returned vv_ ∧ Q_rmPaI Z wC cC zC wO a x y z h0 n0 vv_ UV_.heap LL_ ∧ FrameEnd s oo_ UV_ LL_ ({ frames := 2, cells := 0, slots := 0, locals := 24 } : Room).cells ({ frames := 2, cells := 0, slots := 0, locals := 24 } : Room).slots) (own_ef_rmPaI m a x y z) ?_
  refine own_by (T' := s₁) (g' := (mkF m 1 #[.val (.ref a), .val (.ref x), .val (.ref y), .val (.ref z)] [(.ref a)])) (fun _ kt_ => XS.aloadN X0.here hx rfl (hb hby own_d16_0) rfl rfl kt_) ?_
  obtain ⟨_, _, ⟨T1, L1, k1, n1⟩, -, X1, ⟨Lc1, hQ1, l1, y1, z1⟩, st1⟩ := X0.specialBack hx (y := (⟨"java/lang/Record", "<init>", "()V"⟩ : MethodName)) rfl hown (mvT hZ (hw _ (List.mem_of_getElem? (i := 103) rfl))) (mvT hZ (hw _ (List.mem_of_getElem? (i := 46) rfl))) (mvT hZ (hw _ (List.mem_of_getElem? (i := 49) rfl))) (by decide) (backOf (W := 0) (rmRec l Z a0 hw [] wC cC zC wO GS a h0 n0 (by omega) O0 ) hZ (hw _ (List.mem_of_getElem? (i := 49) rfl)) (hw _ (List.mem_of_getElem? (i := 48) rfl)) (by decide) (by decide)) (g := (mkF m 1 #[.val (.ref a), .val (.ref x), .val (.ref y), .val (.ref z)] [(.ref a)])) rfl (by rw [hml]; rfl) (Steps.refl _) (a := a) (argsL := []) (rest := []) (lenOf own_pd_0 rfl) rfl (by show 2 * 0 + _ ≤ _; exact Nat.le_of_eq rfl) (hb hby own_d16_1) (fun _ _ => ⟨rfl, e0, (by decide : 0 + 0 ≤ _), (by decide : 0 + 0 ≤ _)⟩)
  dsimp only [Pt.U, Pt.locs, Pt.cells, Pt.slots] at X1 l1 y1 z1 st1 hQ1
  subst l1 y1 z1
  obtain ⟨rfl, N1q, e1⟩ := hQ1
  have N2 := Fr.app N0 N1q
  refine own_by (T' := T1) (g' := (mkF m 4 #[.val (.ref a), .val (.ref x), .val (.ref y), .val (.ref z)] [])) (fun _ kt_ => st1.trans kt_) ?_
  refine own_by (T' := T1) (g' := (mkF m 5 #[.val (.ref a), .val (.ref x), .val (.ref y), .val (.ref z)] [(.ref a)])) (fun _ kt_ => XS.aloadN X1.here hx rfl (hb hby own_d16_4) rfl rfl kt_) ?_
  refine own_by (T' := T1) (g' := (mkF m 6 #[.val (.ref a), .val (.ref x), .val (.ref y), .val (.ref z)] [(.ref x), (.ref a)])) (fun _ kt_ => XS.aloadN X1.here hx rfl (hb hby own_d16_5) rfl rfl kt_) ?_
  obtain ⟨T3, h3, X3, e3, W3, st3⟩ := putF X1 hx hZ hown (host := "") (Or.inl (hw _ (List.mem_of_getElem? (i := 104) rfl))) Via.refl e1 F_planYear E_a (Or.inr ⟨(hw _ (List.mem_of_getElem? (i := 105) rfl)), rfl, hnm⟩) (hw _ (List.mem_of_getElem? (i := 98) rfl)) (ty := (.object "java/util/Optional")) (by decide) rfl rfl (g := (mkF m 6 #[.val (.ref a), .val (.ref x), .val (.ref y), .val (.ref z)] [(.ref x), (.ref a)])) rfl rfl (hb hby own_d16_6)
  have K4 : Keep h0 h3 [a] := Keep.of_wr W3
  have zzK4 : h0.size ≤ h3.size := K4.1
  have oo5 : Old Z n0 h3 := O0.keep K4 (allS (by omega : n0 ≤ a) all0)
  have kt6 : Keep h0 h3 [a] := KT0.trans K4 (allS (Or.inl (List.mem_of_getElem? (i := 0) rfl)) all0)
  have f7 : Fld Z h3 a "com/example/vestledger/vestledger/plan/Elections$Part" "planYear" "Ljava/util/Optional;" (.ref x) := F_planYear.same W3
  have f8 : Fld Z h3 a "com/example/vestledger/vestledger/plan/Elections$Part" "payment" "Ljava/util/Optional;" .null := F_payment.other W3 (Or.inr (slot_ne (Or.inr (hw _ (List.mem_of_getElem? (i := 107) rfl))) (Or.inr (hw _ (List.mem_of_getElem? (i := 105) rfl))) (by decide) (t := (.object "java/util/Optional")) (t' := (.object "java/util/Optional")) (by decide) (by decide)))
  have f9 : Fld Z h3 a "com/example/vestledger/vestledger/plan/Elections$Part" "companyStock" "Ljava/util/Optional;" .null := F_companyStock.other W3 (Or.inr (slot_ne (Or.inr (hw _ (List.mem_of_getElem? (i := 109) rfl))) (Or.inr (hw _ (List.mem_of_getElem? (i := 105) rfl))) (by decide) (t := (.object "java/util/Optional")) (t' := (.object "java/util/Optional")) (by decide) (by decide)))
  have N10 := Fr.snoc X3 N2 (by omega : n0 ≤ a)
  refine own_by (T' := T3) (g' := (mkF m 9 #[.val (.ref a), .val (.ref x), .val (.ref y), .val (.ref z)] [])) st3 ?_
  refine own_by (T' := T3) (g' := (mkF m 10 #[.val (.ref a), .val (.ref x), .val (.ref y), .val (.ref z)] [(.ref a)])) (fun _ kt_ => XS.aloadN X3.here hx rfl (hb hby own_d16_9) rfl rfl kt_) ?_
  refine own_by (T' := T3) (g' := (mkF m 11 #[.val (.ref a), .val (.ref x), .val (.ref y), .val (.ref z)] [(.ref y), (.ref a)])) (fun _ kt_ => XS.aloadN X3.here hx rfl (hb hby own_d16_10) rfl rfl kt_) ?_
  have f11 : Exa Z h3 a "com/example/vestledger/vestledger/plan/Elections$Part" := (E_a.keep K4)
  obtain ⟨T12, h12, X12, e12, W12, st12⟩ := putF X3 hx hZ hown (host := "") (Or.inl (hw _ (List.mem_of_getElem? (i := 106) rfl))) Via.refl e3 f8 f11 (Or.inr ⟨(hw _ (List.mem_of_getElem? (i := 107) rfl)), rfl, hnm⟩) (hw _ (List.mem_of_getElem? (i := 98) rfl)) (ty := (.object "java/util/Optional")) (by decide) rfl rfl (g := (mkF m 11 #[.val (.ref a), .val (.ref x), .val (.ref y), .val (.ref z)] [(.ref y), (.ref a)])) rfl rfl (hb hby own_d16_11)
  have K13 : Keep h3 h12 [a] := Keep.of_wr W12
  have zzK13 : h3.size ≤ h12.size := K13.1
  have oo14 : Old Z n0 h12 := oo5.keep K13 (allS (by omega : n0 ≤ a) all0)
  have kt15 : Keep h0 h12 [a] := kt6.trans K13 (allS (Or.inl (List.mem_of_getElem? (i := 0) rfl)) all0)
  have f16 : Fld Z h12 a "com/example/vestledger/vestledger/plan/Elections$Part" "planYear" "Ljava/util/Optional;" (.ref x) := f7.other W12 (Or.inr (slot_ne (Or.inr (hw _ (List.mem_of_getElem? (i := 105) rfl))) (Or.inr (hw _ (List.mem_of_getElem? (i := 107) rfl))) (by decide) (t := (.object "java/util/Optional")) (t' := (.object "java/util/Optional")) (by decide) (by decide)))
  have f17 : Fld Z h12 a "com/example/vestledger/vestledger/plan/Elections$Part" "payment" "Ljava/util/Optional;" (.ref y) := f8.same W12
  have f18 : Fld Z h12 a "com/example/vestledger/vestledger/plan/Elections$Part" "companyStock" "Ljava/util/Optional;" .null := f9.other W12 (Or.inr (slot_ne (Or.inr (hw _ (List.mem_of_getElem? (i := 109) rfl))) (Or.inr (hw _ (List.mem_of_getElem? (i := 107) rfl))) (by decide) (t := (.object "java/util/Optional")) (t' := (.object "java/util/Optional")) (by decide) (by decide)))
  have N19 := Fr.snoc X12 N10 (by omega : n0 ≤ a)
  refine own_by (T' := T12) (g' := (mkF m 14 #[.val (.ref a), .val (.ref x), .val (.ref y), .val (.ref z)] [])) st12 ?_
  refine own_by (T' := T12) (g' := (mkF m 15 #[.val (.ref a), .val (.ref x), .val (.ref y), .val (.ref z)] [(.ref a)])) (fun _ kt_ => XS.aloadN X12.here hx rfl (hb hby own_d16_14) rfl rfl kt_) ?_
  refine own_by (T' := T12) (g' := (mkF m 16 #[.val (.ref a), .val (.ref x), .val (.ref y), .val (.ref z)] [(.ref z), (.ref a)])) (fun _ kt_ => XS.aloadN X12.here hx rfl (hb hby own_d16_15) rfl rfl kt_) ?_
  have f20 : Exa Z h12 a "com/example/vestledger/vestledger/plan/Elections$Part" := (f11.keep K13)
  obtain ⟨T21, h21, X21, e21, W21, st21⟩ := putF X12 hx hZ hown (host := "") (Or.inl (hw _ (List.mem_of_getElem? (i := 108) rfl))) Via.refl e12 f18 f20 (Or.inr ⟨(hw _ (List.mem_of_getElem? (i := 109) rfl)), rfl, hnm⟩) (hw _ (List.mem_of_getElem? (i := 98) rfl)) (ty := (.object "java/util/Optional")) (by decide) rfl rfl (g := (mkF m 16 #[.val (.ref a), .val (.ref x), .val (.ref y), .val (.ref z)] [(.ref z), (.ref a)])) rfl rfl (hb hby own_d16_16)
  have K22 : Keep h12 h21 [a] := Keep.of_wr W21
  have zzK22 : h12.size ≤ h21.size := K22.1
  have oo23 : Old Z n0 h21 := oo14.keep K22 (allS (by omega : n0 ≤ a) all0)
  have kt24 : Keep h0 h21 [a] := kt15.trans K22 (allS (Or.inl (List.mem_of_getElem? (i := 0) rfl)) all0)
  have f25 : Fld Z h21 a "com/example/vestledger/vestledger/plan/Elections$Part" "planYear" "Ljava/util/Optional;" (.ref x) := f16.other W21 (Or.inr (slot_ne (Or.inr (hw _ (List.mem_of_getElem? (i := 105) rfl))) (Or.inr (hw _ (List.mem_of_getElem? (i := 109) rfl))) (by decide) (t := (.object "java/util/Optional")) (t' := (.object "java/util/Optional")) (by decide) (by decide)))
  have f26 : Fld Z h21 a "com/example/vestledger/vestledger/plan/Elections$Part" "payment" "Ljava/util/Optional;" (.ref y) := f17.other W21 (Or.inr (slot_ne (Or.inr (hw _ (List.mem_of_getElem? (i := 107) rfl))) (Or.inr (hw _ (List.mem_of_getElem? (i := 109) rfl))) (by decide) (t := (.object "java/util/Optional")) (t' := (.object "java/util/Optional")) (by decide) (by decide)))
  have f27 : Fld Z h21 a "com/example/vestledger/vestledger/plan/Elections$Part" "companyStock" "Ljava/util/Optional;" (.ref z) := f18.same W21
  have N28 := Fr.snoc X21 N19 (by omega : n0 ≤ a)
  refine own_by (T' := T21) (g' := (mkF m 19 #[.val (.ref a), .val (.ref x), .val (.ref y), .val (.ref z)] [])) st21 ?_
  obtain ⟨fs29, hr29, hrun29, hended29, hW29, hsame29⟩ := X21.leave (v := none) (fun _ => rfl)
  refine ⟨_, _, X21.returnOut hx Bd.returns (hb hby own_d16_19) hr29, hrun29, hended29, _, _, rfl, ?_, ⟨_, rfl⟩, hW29, hsame29.mono (by decide) (by decide)⟩
  show Q_rmPaI Z wC cC zC wO a x y z h0 n0 _ T21.heap _
  rw [e21]
  exact ⟨rfl, N28, kt24, f25, f26, f27⟩
theorem own_pd_9 : parseMethodDescriptor "(Ljava/lang/Object;)Ljava/util/Optional;" = some ⟨[(.object "java/lang/Object")], some (.object "java/util/Optional")⟩ := by decide +kernel
theorem own_pd_10 : parseMethodDescriptor "(Ljava/util/Optional;Ljava/util/Optional;Ljava/util/Optional;)V" = some ⟨[(.object "java/util/Optional"), (.object "java/util/Optional"), (.object "java/util/Optional")], none⟩ := by decide +kernel
theorem own_d17_0 : decode prog_53_method_2_code 0 = .ok (.new 8, 3) := by decide +kernel
theorem own_d17_3 : decode prog_53_method_2_code 3 = .ok (.dup, 1) := by decide +kernel
theorem own_d17_4 : decode prog_53_method_2_code 4 = .ok (.aload_n 0, 1) := by decide +kernel
theorem own_d17_5 : decode prog_53_method_2_code 5 = .ok (.getfield 7, 3) := by decide +kernel
theorem own_d17_8 : decode prog_53_method_2_code 8 = .ok (.aload_n 0, 1) := by decide +kernel
theorem own_d17_9 : decode prog_53_method_2_code 9 = .ok (.getfield 13, 3) := by decide +kernel
theorem own_d17_12 : decode prog_53_method_2_code 12 = .ok (.aload_n 1, 1) := by decide +kernel
theorem own_d17_13 : decode prog_53_method_2_code 13 = .ok (.invokestatic 19, 3) := by decide +kernel
theorem own_d17_16 : decode prog_53_method_2_code 16 = .ok (.invokespecial 25, 3) := by decide +kernel
theorem own_d17_19 : decode prog_53_method_2_code 19 = .ok (.areturn, 1) := by decide +kernel
theorem own_ef_rmOCS (m : MethodId) (x0 : Addr) (x1 : Addr) : entryFrame m #[(.ref x0), (.ref x1)] 2 = mkF m 0 #[.val (.ref x0), .val (.ref x1)] [] := by first | (simp [entryFrame, mkF, argsToLocals, Value.category]; done) | rfl
def Q_rmOCS (Z : State) (wC : Addr) (cC : Cell) (zC : Int32) (wO : Addr) (a : Addr) (ob : Addr) (x : Addr) (y : Addr) (h0 : Heap) (n0 : Nat) (vv_ : Option Value) (hh_ : Heap) (LL_ : List Loc) : Prop := ∃ b : Addr, ∃ z : Addr, vv_ = some (.ref b) ∧ Fr n0 LL_ ∧ Keep h0 hh_ [] ∧ h0.size ≤ b ∧ h0.size ≤ z ∧ Exa Z hh_ b "com/example/vestledger/vestledger/plan/Elections$Part" ∧ Exa Z hh_ z "java/util/Optional" ∧ Fld Z hh_ z "java/util/Optional" "value" "Ljava/lang/Object;" (.ref ob) ∧ Fld Z hh_ b "com/example/vestledger/vestledger/plan/Elections$Part" "planYear" "Ljava/util/Optional;" (.ref x) ∧ Fld Z hh_ b "com/example/vestledger/vestledger/plan/Elections$Part" "payment" "Ljava/util/Optional;" (.ref y) ∧ Fld Z hh_ b "com/example/vestledger/vestledger/plan/Elections$Part" "companyStock" "Ljava/util/Optional;" (.ref z)
set_option maxRecDepth 65536 in
set_option maxHeartbeats 40000000 in
theorem rmOCS (l : Launch) (Z : State) (a0 : Array Value) (hw : ∀ d ∈ tables_1, d.before a0 Z = true) (ws : List Jvm.Cond) (wC : Addr) (cC : Cell) (zC : Int32) (wO : Addr) (GS : Glob Z wC cC zC wO) (a : Addr) (ob : Addr) (x : Addr) (y : Addr) (h0 : Heap) (n0 : Nat) (Z0 : n0 ≤ h0.size) (O0 : Old Z n0 h0) (FplanYear : Fld Z h0 a "com/example/vestledger/vestledger/plan/Elections$Part" "planYear" "Ljava/util/Optional;" (.ref x)) (Fpayment : Fld Z h0 a "com/example/vestledger/vestledger/plan/Elections$Part" "payment" "Ljava/util/Optional;" (.ref y)) :
    MetFree l (⟨"com/example/vestledger/vestledger/plan/Elections$Part", "ofCompanyStock", "(Lcom/example/vestledger/vestledger/plan/Fund;)Lcom/example/vestledger/vestledger/plan/Elections$Part;"⟩ : MethodName) (head1 (Jvm.Cond.code (⟨"com/example/vestledger/vestledger/plan/Elections$Part", "ofCompanyStock", "(Lcom/example/vestledger/vestledger/plan/Fund;)Lcom/example/vestledger/vestledger/plan/Elections$Part;"⟩ : MethodName) prog_53_method_2_code 2 (some (.object "com/example/vestledger/vestledger/plan/Elections$Part")) :: ws) ({ frames := 3, cells := 2, slots := 4, locals := 42 } : Room)) (fun aa_ UU_ => aa_ = #[(.ref a), (.ref ob)] ∧ Z.Warmed39 UU_.vm ∧ UU_.heap = h0) (fun _ _ _ _ _ => True) (fun _ UU_ oo_ UV_ => ∃ vv_ LL_, oo_ = .returned vv_ ∧ Q_rmOCS Z wC cC zC wO a ob x y h0 n0 vv_ UV_.heap LL_ ∧ FrameEnd UU_ oo_ UV_ LL_ ({ frames := 3, cells := 2, slots := 4, locals := 42 } : Room).cells ({ frames := 3, cells := 2, slots := 4, locals := 42 } : Room).slots) := by
  refine MetFree.of_bodySF (plainFor_of_name own_pn_com_example_vestledger_vestledger_plan_Elections_Part) hisR ?_
  intro p e s m args below meth c s₁ Bd hml0 hP hK
  obtain ⟨rfl, hZ, hh⟩ := hP
  have hx := Bd.exec
  have hby := Bd.bytes
  have hml : c.maxLocals = 2 := hml0
  have hown : s.vm.findClass "com/example/vestledger/vestledger/plan/Elections$Part" = some m.cls := findClass_of_methodNamed Bd.named
  have hnm := (name_of_methodNamed Bd.named Bd.method).1
  have X0 : Stand p l e ({ frames := 3, cells := 2, slots := 4, locals := 42 } : Room) s m #[(.ref a), (.ref ob)] below meth c s₁ [] 0 0 := Stand.of_body Bd
  have e0 : s₁.heap = h0 := by rw [← hh, Bd.state]; rfl
  have N0 := Fr.nil n0
  have hn0 : Z.heap.size = n0 := O0.1
  have KT0 : Keep h0 h0 [] := Keep.refl _ _
  refine own_enter (Φ := fun oo_ UV_ => ∃ vv_ LL_, oo_ = .returned vv_ ∧ Q_rmOCS Z wC cC zC wO a ob x y h0 n0 vv_ UV_.heap LL_ ∧ FrameEnd s oo_ UV_ LL_ ({ frames := 3, cells := 2, slots := 4, locals := 42 } : Room).cells ({ frames := 3, cells := 2, slots := 4, locals := 42 } : Room).slots) (own_ef_rmOCS m a ob) ?_
  obtain ⟨T1, h1, X1, e1, E1, A1, D1, -, st1⟩ := newO X0 hx hZ hown (hw _ (List.mem_of_getElem? (i := 115) rfl)) (hw _ (List.mem_of_getElem? (i := 98) rfl)) (hw _ (List.mem_of_getElem? (i := 99) rfl)) e0 (g := (mkF m 0 #[.val (.ref a), .val (.ref ob)] [])) rfl (hb hby own_d17_0) (by decide) (by decide)
  obtain ⟨b1, g1⟩ : ∃ z, z = h0.size := ⟨_, rfl⟩
  rw [← g1] at A1 D1 st1
  have K2 : Keep h0 h1 [] := own_kext E1
  have zzK2 : h0.size ≤ h1.size := K2.1
  have oo3 : Old Z n0 h1 := O0.keep K2 all0
  have kt4 : Keep h0 h1 [] := KT0.trans K2 all0
  have lab1 : b1 < h1.size := A1.lt
  have f5 : Fld Z h1 b1 "com/example/vestledger/vestledger/plan/Elections$Part" "planYear" "Ljava/util/Optional;" .null := D1 (Or.inr (hw _ (List.mem_of_getElem? (i := 105) rfl))) (ty := (.object "java/util/Optional")) (by decide)
  have f6 : Fld Z h1 b1 "com/example/vestledger/vestledger/plan/Elections$Part" "payment" "Ljava/util/Optional;" .null := D1 (Or.inr (hw _ (List.mem_of_getElem? (i := 107) rfl))) (ty := (.object "java/util/Optional")) (by decide)
  have f7 : Fld Z h1 b1 "com/example/vestledger/vestledger/plan/Elections$Part" "companyStock" "Ljava/util/Optional;" .null := D1 (Or.inr (hw _ (List.mem_of_getElem? (i := 109) rfl))) (ty := (.object "java/util/Optional")) (by decide)
  refine own_by (T' := T1) (g' := (mkF m 3 #[.val (.ref a), .val (.ref ob)] [(.ref b1)])) st1 ?_
  refine own_by (T' := T1) (g' := (mkF m 4 #[.val (.ref a), .val (.ref ob)] [(.ref b1), (.ref b1)])) (fun _ kt_ => XS.dup X1.here hx rfl (hb hby own_d17_3) rfl rfl kt_) ?_
  refine own_by (T' := T1) (g' := (mkF m 5 #[.val (.ref a), .val (.ref ob)] [(.ref a), (.ref b1), (.ref b1)])) (fun _ kt_ => XS.aloadN X1.here hx rfl (hb hby own_d17_4) rfl rfl kt_) ?_
  have f8 : Fld Z h1 a "com/example/vestledger/vestledger/plan/Elections$Part" "planYear" "Ljava/util/Optional;" (.ref x) := (FplanYear.keep K2 nin0)
  obtain ⟨T9, X9, e9, st9⟩ := getF X1 hx hZ hown (host := "") (Or.inl (hw _ (List.mem_of_getElem? (i := 104) rfl))) Via.refl e1 f8 (g := (mkF m 5 #[.val (.ref a), .val (.ref ob)] [(.ref a), (.ref b1), (.ref b1)])) rfl rfl (hb hby own_d17_5)
  refine own_by (T' := T9) (g' := (mkF m 8 #[.val (.ref a), .val (.ref ob)] [(.ref x), (.ref b1), (.ref b1)])) st9 ?_
  refine own_by (T' := T9) (g' := (mkF m 9 #[.val (.ref a), .val (.ref ob)] [(.ref a), (.ref x), (.ref b1), (.ref b1)])) (fun _ kt_ => XS.aloadN X9.here hx rfl (hb hby own_d17_8) rfl rfl kt_) ?_
  have f10 : Fld Z h1 a "com/example/vestledger/vestledger/plan/Elections$Part" "payment" "Ljava/util/Optional;" (.ref y) := (Fpayment.keep K2 nin0)
  obtain ⟨T11, X11, e11, st11⟩ := getF X9 hx hZ hown (host := "") (Or.inl (hw _ (List.mem_of_getElem? (i := 106) rfl))) Via.refl e9 f10 (g := (mkF m 9 #[.val (.ref a), .val (.ref ob)] [(.ref a), (.ref x), (.ref b1), (.ref b1)])) rfl rfl (hb hby own_d17_9)
  refine own_by (T' := T11) (g' := (mkF m 12 #[.val (.ref a), .val (.ref ob)] [(.ref y), (.ref x), (.ref b1), (.ref b1)])) st11 ?_
  refine own_by (T' := T11) (g' := (mkF m 13 #[.val (.ref a), .val (.ref ob)] [(.ref ob), (.ref y), (.ref x), (.ref b1), (.ref b1)])) (fun _ kt_ => XS.aloadN X11.here hx rfl (hb hby own_d17_12) rfl rfl kt_) ?_
  obtain ⟨_, _, ⟨T12, L12, k12, n12⟩, -, X12, ⟨Lc12, hQ12, l12, y12, z12⟩, st12⟩ := Jvm.LawKit.callS X11 hx (y := (⟨"java/util/Optional", "of", "(Ljava/lang/Object;)Ljava/util/Optional;"⟩ : MethodName)) hown (mvT hZ (hw _ (List.mem_of_getElem? (i := 116) rfl))) (mvT hZ (hw _ (List.mem_of_getElem? (i := 71) rfl))) (mvT hZ (hw _ (List.mem_of_getElem? (i := 39) rfl))) (mvT hZ (hw _ (List.mem_of_getElem? (i := 72) rfl))) (by decide) (backOf (W := 4) (rmOf l Z a0 hw [] wC cC zC wO GS ob h1 n0 (by omega) oo3 ) hZ (hw _ (List.mem_of_getElem? (i := 72) rfl)) (hw _ (List.mem_of_getElem? (i := 39) rfl)) (by decide) (by decide)) (g := (mkF m 13 #[.val (.ref a), .val (.ref ob)] [(.ref ob), (.ref y), (.ref x), (.ref b1), (.ref b1)])) rfl (by rw [hml]; rfl) (argsL := [(.ref ob)]) (rest := [(.ref y), (.ref x), (.ref b1), (.ref b1)]) (lenOf own_pd_9 rfl) rfl (by show 2 * 0 + _ ≤ _; exact Nat.le_of_eq rfl) (hb hby own_d17_13) (fun _ _ => ⟨rfl, e11, (by decide : 1 + 1 ≤ _), (by decide : 3 + 1 ≤ _)⟩)
  dsimp only [Pt.U, Pt.locs, Pt.cells, Pt.slots] at X12 l12 y12 z12 st12 hQ12
  subst l12 y12 z12
  obtain ⟨b_13, rfl, N12q, K12, p12_0, p12_1, p12_2⟩ := hQ12
  have N14 := Fr.app N0 N12q
  have gb_13 : h1.size ≤ b_13 := p12_0
  have zzK12 : h1.size ≤ T12.heap.size := K12.1
  have oo15 : Old Z n0 T12.heap := oo3.keep K12 all0
  have kt16 : Keep h0 T12.heap [] := kt4.trans K12 all0
  refine own_by (T' := T12) (g' := (mkF m 16 #[.val (.ref a), .val (.ref ob)] [(.ref b_13), (.ref y), (.ref x), (.ref b1), (.ref b1)])) st12 ?_
  have f17 : Exa Z T12.heap b1 "com/example/vestledger/vestledger/plan/Elections$Part" := (A1.keep K12)
  have f18 : Fld Z T12.heap b1 "com/example/vestledger/vestledger/plan/Elections$Part" "planYear" "Ljava/util/Optional;" .null := (f5.keep K12 nin0)
  have f19 : Fld Z T12.heap b1 "com/example/vestledger/vestledger/plan/Elections$Part" "payment" "Ljava/util/Optional;" .null := (f6.keep K12 nin0)
  have f20 : Fld Z T12.heap b1 "com/example/vestledger/vestledger/plan/Elections$Part" "companyStock" "Ljava/util/Optional;" .null := (f7.keep K12 nin0)
  obtain ⟨_, _, ⟨T21, L21, k21, n21⟩, -, X21, ⟨Lc21, hQ21, l21, y21, z21⟩, st21⟩ := X12.specialBack hx (y := (⟨"com/example/vestledger/vestledger/plan/Elections$Part", "<init>", "(Ljava/util/Optional;Ljava/util/Optional;Ljava/util/Optional;)V"⟩ : MethodName)) rfl hown (mvT hZ (hw _ (List.mem_of_getElem? (i := 117) rfl))) (mvT hZ (hw _ (List.mem_of_getElem? (i := 101) rfl))) (mvT hZ (hw _ (List.mem_of_getElem? (i := 102) rfl))) (by decide) (backOf (W := 1) (rmPaI l Z a0 hw [] wC cC zC wO GS b1 x y b_13 T12.heap n0 (by omega) oo15 f17 (by omega) f18 f19 f20) hZ (hw _ (List.mem_of_getElem? (i := 102) rfl)) (hw _ (List.mem_of_getElem? (i := 99) rfl)) (by decide) (by decide)) (g := (mkF m 16 #[.val (.ref a), .val (.ref ob)] [(.ref b_13), (.ref y), (.ref x), (.ref b1), (.ref b1)])) rfl (by rw [hml]; rfl) (Steps.refl _) (a := b1) (argsL := [(.ref x), (.ref y), (.ref b_13)]) (rest := [(.ref b1)]) (lenOf own_pd_10 rfl) rfl (by show 2 * 0 + _ ≤ _; exact Nat.le_of_eq rfl) (hb hby own_d17_16) (fun _ _ => ⟨rfl, rfl, (by decide : 2 + 0 ≤ _), (by decide : 4 + 0 ≤ _)⟩)
  dsimp only [Pt.U, Pt.locs, Pt.cells, Pt.slots] at X21 l21 y21 z21 st21 hQ21
  subst l21 y21 z21
  obtain ⟨rfl, N21q, K21, p21_0, p21_1, p21_2⟩ := hQ21
  have N22 := Fr.app N14 N21q
  have zzK21 : T12.heap.size ≤ T21.heap.size := K21.1
  have oo23 : Old Z n0 T21.heap := oo15.keep K21 (allS (by omega : n0 ≤ b1) all0)
  have kt24 : Keep h0 T21.heap [] := kt16.trans K21 (allS (Or.inr (by omega : h0.size ≤ b1)) all0)
  refine own_by (T' := T21) (g' := (mkF m 19 #[.val (.ref a), .val (.ref ob)] [(.ref b1)])) (fun _ kt_ => st21.trans kt_) ?_
  have la25 : @LT.lt Nat instLTNat b_13 T12.heap.size := p12_1.lt
  have f26 : Exa Z T21.heap b1 "com/example/vestledger/vestledger/plan/Elections$Part" := (f17.keep K21)
  have f27 : Exa Z T21.heap b_13 "java/util/Optional" := (p12_1.keep K21)
  have ne28 : @Ne Nat b_13 b1 := by omega
  have f29 : Fld Z T21.heap b_13 "java/util/Optional" "value" "Ljava/lang/Object;" (.ref ob) := (p12_2.keep K21 (ninS ne28 nin0))
  obtain ⟨fs30, hr30, hrun30, hended30, hW30, hsame30⟩ := X21.leave (v := some (.ref b1)) (fun h => by rw [Bd.returns] at h; cases h)
  refine ⟨_, _, retOut X21 hx (t := (.object "com/example/vestledger/vestledger/plan/Elections$Part")) Bd.returns rfl (Or.inr (Or.inr (Or.inr (Or.inr ⟨rfl, rfl, rfl⟩)))) (hb hby own_d17_19) hr30, hrun30, hended30, _, _, rfl, ?_, ⟨_, rfl⟩, hW30, hsame30.mono (by decide) (by decide)⟩
  show Q_rmOCS Z wC cC zC wO a ob x y h0 n0 _ T21.heap _
  exact ⟨b1, b_13, rfl, N22, kt24, (by omega), (by omega), f26, f27, f29, p21_0, p21_1, p21_2⟩
theorem own_d18_0 : decode prog_53_method_8_code 0 = .ok (.aload_n 0, 1) := by decide +kernel
theorem own_d18_1 : decode prog_53_method_8_code 1 = .ok (.getfield 16, 3) := by decide +kernel
theorem own_d18_4 : decode prog_53_method_8_code 4 = .ok (.areturn, 1) := by decide +kernel
theorem own_ef_rmGcompanyStock (m : MethodId) (x0 : Addr) : entryFrame m #[(.ref x0)] 1 = mkF m 0 #[.val (.ref x0)] [] := by first | (simp [entryFrame, mkF, argsToLocals, Value.category]; done) | rfl
def Q_rmGcompanyStock (Z : State) (wC : Addr) (cC : Cell) (zC : Int32) (wO : Addr) (a : Addr) (w : Addr) (h0 : Heap) (n0 : Nat) (vv_ : Option Value) (hh_ : Heap) (LL_ : List Loc) : Prop := vv_ = some (.ref w) ∧ Fr n0 LL_ ∧ hh_ = h0
set_option maxRecDepth 65536 in
set_option maxHeartbeats 40000000 in
theorem rmGcompanyStock (l : Launch) (Z : State) (a0 : Array Value) (hw : ∀ d ∈ tables_1, d.before a0 Z = true) (ws : List Jvm.Cond) (wC : Addr) (cC : Cell) (zC : Int32) (wO : Addr) (GS : Glob Z wC cC zC wO) (a : Addr) (w : Addr) (h0 : Heap) (n0 : Nat) (Z0 : n0 ≤ h0.size) (O0 : Old Z n0 h0) (Fw : Fld Z h0 a "com/example/vestledger/vestledger/plan/Elections$Part" "companyStock" "Ljava/util/Optional;" (.ref w)) :
    MetFree l (⟨"com/example/vestledger/vestledger/plan/Elections$Part", "companyStock", "()Ljava/util/Optional;"⟩ : MethodName) (head1 (Jvm.Cond.code (⟨"com/example/vestledger/vestledger/plan/Elections$Part", "companyStock", "()Ljava/util/Optional;"⟩ : MethodName) prog_53_method_8_code 1 (some (.object "java/util/Optional")) :: ws) ({ frames := 0, cells := 0, slots := 0, locals := 0 } : Room)) (fun aa_ UU_ => aa_ = #[(.ref a)] ∧ Z.Warmed39 UU_.vm ∧ UU_.heap = h0) (fun _ _ _ _ _ => True) (fun _ UU_ oo_ UV_ => ∃ vv_ LL_, oo_ = .returned vv_ ∧ Q_rmGcompanyStock Z wC cC zC wO a w h0 n0 vv_ UV_.heap LL_ ∧ FrameEnd UU_ oo_ UV_ LL_ ({ frames := 0, cells := 0, slots := 0, locals := 0 } : Room).cells ({ frames := 0, cells := 0, slots := 0, locals := 0 } : Room).slots) := by
  refine MetFree.of_bodySF (plainFor_of_name own_pn_com_example_vestledger_vestledger_plan_Elections_Part) hisR ?_
  intro p e s m args below meth c s₁ Bd hml0 hP hK
  obtain ⟨rfl, hZ, hh⟩ := hP
  have hx := Bd.exec
  have hby := Bd.bytes
  have hml : c.maxLocals = 1 := hml0
  have hown : s.vm.findClass "com/example/vestledger/vestledger/plan/Elections$Part" = some m.cls := findClass_of_methodNamed Bd.named
  have hnm := (name_of_methodNamed Bd.named Bd.method).1
  have X0 : Stand p l e ({ frames := 0, cells := 0, slots := 0, locals := 0 } : Room) s m #[(.ref a)] below meth c s₁ [] 0 0 := Stand.of_body Bd
  have e0 : s₁.heap = h0 := by rw [← hh, Bd.state]; rfl
  have N0 := Fr.nil n0
  have hn0 : Z.heap.size = n0 := O0.1
  have KT0 : Keep h0 h0 [] := Keep.refl _ _
  refine own_enter (Φ := fun oo_ UV_ => ∃ vv_ LL_, oo_ = .returned vv_ ∧ Q_rmGcompanyStock Z wC cC zC wO a w h0 n0 vv_ UV_.heap LL_ ∧ FrameEnd s oo_ UV_ LL_ ({ frames := 0, cells := 0, slots := 0, locals := 0 } : Room).cells ({ frames := 0, cells := 0, slots := 0, locals := 0 } : Room).slots) (own_ef_rmGcompanyStock m a) ?_
  refine own_by (T' := s₁) (g' := (mkF m 1 #[.val (.ref a)] [(.ref a)])) (fun _ kt_ => XS.aloadN X0.here hx rfl (hb hby own_d18_0) rfl rfl kt_) ?_
  obtain ⟨T1, X1, e1, st1⟩ := getF X0 hx hZ hown (host := "") (Or.inl (hw _ (List.mem_of_getElem? (i := 108) rfl))) Via.refl e0 Fw (g := (mkF m 1 #[.val (.ref a)] [(.ref a)])) rfl rfl (hb hby own_d18_1)
  refine own_by (T' := T1) (g' := (mkF m 4 #[.val (.ref a)] [(.ref w)])) st1 ?_
  obtain ⟨fs2, hr2, hrun2, hended2, hW2, hsame2⟩ := X1.leave (v := some (.ref w)) (fun h => by rw [Bd.returns] at h; cases h)
  refine ⟨_, _, retOut X1 hx (t := (.object "java/util/Optional")) Bd.returns rfl (Or.inr (Or.inr (Or.inr (Or.inr ⟨rfl, rfl, rfl⟩)))) (hb hby own_d18_4) hr2, hrun2, hended2, _, _, rfl, ?_, ⟨_, rfl⟩, hW2, hsame2.mono (by decide) (by decide)⟩
  show Q_rmGcompanyStock Z wC cC zC wO a w h0 n0 _ T1.heap _
  exact ⟨rfl, N0, e1⟩
theorem own_d19_0 : decode prog_53_method_6_code 0 = .ok (.aload_n 0, 1) := by decide +kernel
theorem own_d19_1 : decode prog_53_method_6_code 1 = .ok (.getfield 7, 3) := by decide +kernel
theorem own_d19_4 : decode prog_53_method_6_code 4 = .ok (.areturn, 1) := by decide +kernel
theorem own_ef_rmGplanYear (m : MethodId) (x0 : Addr) : entryFrame m #[(.ref x0)] 1 = mkF m 0 #[.val (.ref x0)] [] := by first | (simp [entryFrame, mkF, argsToLocals, Value.category]; done) | rfl
def Q_rmGplanYear (Z : State) (wC : Addr) (cC : Cell) (zC : Int32) (wO : Addr) (a : Addr) (w : Addr) (h0 : Heap) (n0 : Nat) (vv_ : Option Value) (hh_ : Heap) (LL_ : List Loc) : Prop := vv_ = some (.ref w) ∧ Fr n0 LL_ ∧ hh_ = h0
set_option maxRecDepth 65536 in
set_option maxHeartbeats 40000000 in
theorem rmGplanYear (l : Launch) (Z : State) (a0 : Array Value) (hw : ∀ d ∈ tables_1, d.before a0 Z = true) (ws : List Jvm.Cond) (wC : Addr) (cC : Cell) (zC : Int32) (wO : Addr) (GS : Glob Z wC cC zC wO) (a : Addr) (w : Addr) (h0 : Heap) (n0 : Nat) (Z0 : n0 ≤ h0.size) (O0 : Old Z n0 h0) (Fw : Fld Z h0 a "com/example/vestledger/vestledger/plan/Elections$Part" "planYear" "Ljava/util/Optional;" (.ref w)) :
    MetFree l (⟨"com/example/vestledger/vestledger/plan/Elections$Part", "planYear", "()Ljava/util/Optional;"⟩ : MethodName) (head1 (Jvm.Cond.code (⟨"com/example/vestledger/vestledger/plan/Elections$Part", "planYear", "()Ljava/util/Optional;"⟩ : MethodName) prog_53_method_6_code 1 (some (.object "java/util/Optional")) :: ws) ({ frames := 0, cells := 0, slots := 0, locals := 0 } : Room)) (fun aa_ UU_ => aa_ = #[(.ref a)] ∧ Z.Warmed39 UU_.vm ∧ UU_.heap = h0) (fun _ _ _ _ _ => True) (fun _ UU_ oo_ UV_ => ∃ vv_ LL_, oo_ = .returned vv_ ∧ Q_rmGplanYear Z wC cC zC wO a w h0 n0 vv_ UV_.heap LL_ ∧ FrameEnd UU_ oo_ UV_ LL_ ({ frames := 0, cells := 0, slots := 0, locals := 0 } : Room).cells ({ frames := 0, cells := 0, slots := 0, locals := 0 } : Room).slots) := by
  refine MetFree.of_bodySF (plainFor_of_name own_pn_com_example_vestledger_vestledger_plan_Elections_Part) hisR ?_
  intro p e s m args below meth c s₁ Bd hml0 hP hK
  obtain ⟨rfl, hZ, hh⟩ := hP
  have hx := Bd.exec
  have hby := Bd.bytes
  have hml : c.maxLocals = 1 := hml0
  have hown : s.vm.findClass "com/example/vestledger/vestledger/plan/Elections$Part" = some m.cls := findClass_of_methodNamed Bd.named
  have hnm := (name_of_methodNamed Bd.named Bd.method).1
  have X0 : Stand p l e ({ frames := 0, cells := 0, slots := 0, locals := 0 } : Room) s m #[(.ref a)] below meth c s₁ [] 0 0 := Stand.of_body Bd
  have e0 : s₁.heap = h0 := by rw [← hh, Bd.state]; rfl
  have N0 := Fr.nil n0
  have hn0 : Z.heap.size = n0 := O0.1
  have KT0 : Keep h0 h0 [] := Keep.refl _ _
  refine own_enter (Φ := fun oo_ UV_ => ∃ vv_ LL_, oo_ = .returned vv_ ∧ Q_rmGplanYear Z wC cC zC wO a w h0 n0 vv_ UV_.heap LL_ ∧ FrameEnd s oo_ UV_ LL_ ({ frames := 0, cells := 0, slots := 0, locals := 0 } : Room).cells ({ frames := 0, cells := 0, slots := 0, locals := 0 } : Room).slots) (own_ef_rmGplanYear m a) ?_
  refine own_by (T' := s₁) (g' := (mkF m 1 #[.val (.ref a)] [(.ref a)])) (fun _ kt_ => XS.aloadN X0.here hx rfl (hb hby own_d19_0) rfl rfl kt_) ?_
  obtain ⟨T1, X1, e1, st1⟩ := getF X0 hx hZ hown (host := "") (Or.inl (hw _ (List.mem_of_getElem? (i := 104) rfl))) Via.refl e0 Fw (g := (mkF m 1 #[.val (.ref a)] [(.ref a)])) rfl rfl (hb hby own_d19_1)
  refine own_by (T' := T1) (g' := (mkF m 4 #[.val (.ref a)] [(.ref w)])) st1 ?_
  obtain ⟨fs2, hr2, hrun2, hended2, hW2, hsame2⟩ := X1.leave (v := some (.ref w)) (fun h => by rw [Bd.returns] at h; cases h)
  refine ⟨_, _, retOut X1 hx (t := (.object "java/util/Optional")) Bd.returns rfl (Or.inr (Or.inr (Or.inr (Or.inr ⟨rfl, rfl, rfl⟩)))) (hb hby own_d19_4) hr2, hrun2, hended2, _, _, rfl, ?_, ⟨_, rfl⟩, hW2, hsame2.mono (by decide) (by decide)⟩
  show Q_rmGplanYear Z wC cC zC wO a w h0 n0 _ T1.heap _
  exact ⟨rfl, N0, e1⟩
theorem own_d21_0 : decode prog_53_method_7_code 0 = .ok (.aload_n 0, 1) := by decide +kernel
theorem own_d21_1 : decode prog_53_method_7_code 1 = .ok (.getfield 13, 3) := by decide +kernel
theorem own_d21_4 : decode prog_53_method_7_code 4 = .ok (.areturn, 1) := by decide +kernel
theorem own_ef_rmGpayment (m : MethodId) (x0 : Addr) : entryFrame m #[(.ref x0)] 1 = mkF m 0 #[.val (.ref x0)] [] := by first | (simp [entryFrame, mkF, argsToLocals, Value.category]; done) | rfl
def Q_rmGpayment (Z : State) (wC : Addr) (cC : Cell) (zC : Int32) (wO : Addr) (a : Addr) (w : Addr) (h0 : Heap) (n0 : Nat) (vv_ : Option Value) (hh_ : Heap) (LL_ : List Loc) : Prop := vv_ = some (.ref w) ∧ Fr n0 LL_ ∧ hh_ = h0
set_option maxRecDepth 65536 in
set_option maxHeartbeats 40000000 in
theorem rmGpayment (l : Launch) (Z : State) (a0 : Array Value) (hw : ∀ d ∈ tables_1, d.before a0 Z = true) (ws : List Jvm.Cond) (wC : Addr) (cC : Cell) (zC : Int32) (wO : Addr) (GS : Glob Z wC cC zC wO) (a : Addr) (w : Addr) (h0 : Heap) (n0 : Nat) (Z0 : n0 ≤ h0.size) (O0 : Old Z n0 h0) (Fw : Fld Z h0 a "com/example/vestledger/vestledger/plan/Elections$Part" "payment" "Ljava/util/Optional;" (.ref w)) :
    MetFree l (⟨"com/example/vestledger/vestledger/plan/Elections$Part", "payment", "()Ljava/util/Optional;"⟩ : MethodName) (head1 (Jvm.Cond.code (⟨"com/example/vestledger/vestledger/plan/Elections$Part", "payment", "()Ljava/util/Optional;"⟩ : MethodName) prog_53_method_7_code 1 (some (.object "java/util/Optional")) :: ws) ({ frames := 0, cells := 0, slots := 0, locals := 0 } : Room)) (fun aa_ UU_ => aa_ = #[(.ref a)] ∧ Z.Warmed39 UU_.vm ∧ UU_.heap = h0) (fun _ _ _ _ _ => True) (fun _ UU_ oo_ UV_ => ∃ vv_ LL_, oo_ = .returned vv_ ∧ Q_rmGpayment Z wC cC zC wO a w h0 n0 vv_ UV_.heap LL_ ∧ FrameEnd UU_ oo_ UV_ LL_ ({ frames := 0, cells := 0, slots := 0, locals := 0 } : Room).cells ({ frames := 0, cells := 0, slots := 0, locals := 0 } : Room).slots) := by
  refine MetFree.of_bodySF (plainFor_of_name own_pn_com_example_vestledger_vestledger_plan_Elections_Part) hisR ?_
  intro p e s m args below meth c s₁ Bd hml0 hP hK
  obtain ⟨rfl, hZ, hh⟩ := hP
  have hx := Bd.exec
  have hby := Bd.bytes
  have hml : c.maxLocals = 1 := hml0
  have hown : s.vm.findClass "com/example/vestledger/vestledger/plan/Elections$Part" = some m.cls := findClass_of_methodNamed Bd.named
  have hnm := (name_of_methodNamed Bd.named Bd.method).1
  have X0 : Stand p l e ({ frames := 0, cells := 0, slots := 0, locals := 0 } : Room) s m #[(.ref a)] below meth c s₁ [] 0 0 := Stand.of_body Bd
  have e0 : s₁.heap = h0 := by rw [← hh, Bd.state]; rfl
  have N0 := Fr.nil n0
  have hn0 : Z.heap.size = n0 := O0.1
  have KT0 : Keep h0 h0 [] := Keep.refl _ _
  refine own_enter (Φ := fun oo_ UV_ => ∃ vv_ LL_, oo_ = .returned vv_ ∧ Q_rmGpayment Z wC cC zC wO a w h0 n0 vv_ UV_.heap LL_ ∧ FrameEnd s oo_ UV_ LL_ ({ frames := 0, cells := 0, slots := 0, locals := 0 } : Room).cells ({ frames := 0, cells := 0, slots := 0, locals := 0 } : Room).slots) (own_ef_rmGpayment m a) ?_
  refine own_by (T' := s₁) (g' := (mkF m 1 #[.val (.ref a)] [(.ref a)])) (fun _ kt_ => XS.aloadN X0.here hx rfl (hb hby own_d21_0) rfl rfl kt_) ?_
  obtain ⟨T1, X1, e1, st1⟩ := getF X0 hx hZ hown (host := "") (Or.inl (hw _ (List.mem_of_getElem? (i := 106) rfl))) Via.refl e0 Fw (g := (mkF m 1 #[.val (.ref a)] [(.ref a)])) rfl rfl (hb hby own_d21_1)
  refine own_by (T' := T1) (g' := (mkF m 4 #[.val (.ref a)] [(.ref w)])) st1 ?_
  obtain ⟨fs2, hr2, hrun2, hended2, hW2, hsame2⟩ := X1.leave (v := some (.ref w)) (fun h => by rw [Bd.returns] at h; cases h)
  refine ⟨_, _, retOut X1 hx (t := (.object "java/util/Optional")) Bd.returns rfl (Or.inr (Or.inr (Or.inr (Or.inr ⟨rfl, rfl, rfl⟩)))) (hb hby own_d21_4) hr2, hrun2, hended2, _, _, rfl, ?_, ⟨_, rfl⟩, hW2, hsame2.mono (by decide) (by decide)⟩
  show Q_rmGpayment Z wC cC zC wO a w h0 n0 _ T1.heap _
  exact ⟨rfl, N0, e1⟩
theorem own_d25_0 : decode jdk_42_method_66_code 0 = .ok (.aload_n 0, 1) := by decide +kernel
theorem own_d25_1 : decode jdk_42_method_66_code 1 = .ok (.aload_n 1, 1) := by decide +kernel
theorem own_d25_2 : decode jdk_42_method_66_code 2 = .ok (.if_acmp .ne 5, 3) := by decide +kernel
theorem own_d25_5 : decode jdk_42_method_66_code 5 = .ok (.iconst 1, 1) := by decide +kernel
theorem own_d25_6 : decode jdk_42_method_66_code 6 = .ok (.ireturn, 1) := by decide +kernel
theorem own_ef_rmSEq (m : MethodId) (x0 : Addr) (x1 : Addr) : entryFrame m #[(.ref x0), (.ref x1)] 3 = mkF m 0 #[.val (.ref x0), .val (.ref x1), .unset] [] := by first | (simp [entryFrame, mkF, argsToLocals, Value.category]; done) | rfl
def Q_rmSEq (Z : State) (wC : Addr) (cC : Cell) (zC : Int32) (wO : Addr) (a : Addr) (h0 : Heap) (n0 : Nat) (vv_ : Option Value) (hh_ : Heap) (LL_ : List Loc) : Prop := vv_ = some (.int (1 : Int32)) ∧ Fr n0 LL_ ∧ hh_ = h0
set_option maxRecDepth 65536 in
set_option maxHeartbeats 40000000 in
theorem rmSEq (l : Launch) (Z : State) (a0 : Array Value) (hw : ∀ d ∈ tables_1, d.before a0 Z = true) (ws : List Jvm.Cond) (wC : Addr) (cC : Cell) (zC : Int32) (wO : Addr) (GS : Glob Z wC cC zC wO) (a : Addr) (h0 : Heap) (n0 : Nat) (Z0 : n0 ≤ h0.size) (O0 : Old Z n0 h0) :
    MetFree l (⟨"java/lang/String", "equals", "(Ljava/lang/Object;)Z"⟩ : MethodName) (head1 (Jvm.Cond.code (⟨"java/lang/String", "equals", "(Ljava/lang/Object;)Z"⟩ : MethodName) jdk_42_method_66_code 3 (some .boolean) :: ws) ({ frames := 0, cells := 0, slots := 0, locals := 0 } : Room)) (fun aa_ UU_ => aa_ = #[(.ref a), (.ref a)] ∧ Z.Warmed39 UU_.vm ∧ UU_.heap = h0) (fun _ _ _ _ _ => True) (fun _ UU_ oo_ UV_ => ∃ vv_ LL_, oo_ = .returned vv_ ∧ Q_rmSEq Z wC cC zC wO a h0 n0 vv_ UV_.heap LL_ ∧ FrameEnd UU_ oo_ UV_ LL_ ({ frames := 0, cells := 0, slots := 0, locals := 0 } : Room).cells ({ frames := 0, cells := 0, slots := 0, locals := 0 } : Room).slots) := by
  refine MetFree.of_bodySF (plainFor_of_name own_pn_java_lang_String) hisR ?_
  intro p e s m args below meth c s₁ Bd hml0 hP hK
  obtain ⟨rfl, hZ, hh⟩ := hP
  have hx := Bd.exec
  have hby := Bd.bytes
  have hml : c.maxLocals = 3 := hml0
  have hown : s.vm.findClass "java/lang/String" = some m.cls := findClass_of_methodNamed Bd.named
  have hnm := (name_of_methodNamed Bd.named Bd.method).1
  have X0 : Stand p l e ({ frames := 0, cells := 0, slots := 0, locals := 0 } : Room) s m #[(.ref a), (.ref a)] below meth c s₁ [] 0 0 := Stand.of_body Bd
  have e0 : s₁.heap = h0 := by rw [← hh, Bd.state]; rfl
  have N0 := Fr.nil n0
  have hn0 : Z.heap.size = n0 := O0.1
  have KT0 : Keep h0 h0 [] := Keep.refl _ _
  refine own_enter (Φ := fun oo_ UV_ => ∃ vv_ LL_, oo_ = .returned vv_ ∧ Q_rmSEq Z wC cC zC wO a h0 n0 vv_ UV_.heap LL_ ∧ FrameEnd s oo_ UV_ LL_ ({ frames := 0, cells := 0, slots := 0, locals := 0 } : Room).cells ({ frames := 0, cells := 0, slots := 0, locals := 0 } : Room).slots) (own_ef_rmSEq m a a) ?_
  refine own_by (T' := s₁) (g' := (mkF m 1 #[.val (.ref a), .val (.ref a), .unset] [(.ref a)])) (fun _ kt_ => XS.aloadN X0.here hx rfl (hb hby own_d25_0) rfl rfl kt_) ?_
  refine own_by (T' := s₁) (g' := (mkF m 2 #[.val (.ref a), .val (.ref a), .unset] [(.ref a), (.ref a)])) (fun _ kt_ => XS.aloadN X0.here hx rfl (hb hby own_d25_1) rfl rfl kt_) ?_
  refine own_by (T' := s₁) (g' := (mkF m 5 #[.val (.ref a), .val (.ref a), .unset] [])) (fun _ kt_ => Jvm.RoadKit.acmp (g := (mkF m 2 #[.val (.ref a), .val (.ref a), .unset] [(.ref a), (.ref a)])) X0 hx rfl rfl rfl (pc0 := 2) (pc' := 5) (same := true) rfl (hb hby own_d25_2) rfl (decide_eq_true rfl) (by decide) (by decide) kt_) ?_
  refine own_by (T' := s₁) (g' := (mkF m 6 #[.val (.ref a), .val (.ref a), .unset] [(.int (1 : Int32))])) (fun _ kt_ => XS.iconst X0.here hx rfl (hb hby own_d25_5) kt_) ?_
  have hn1 : nar .boolean (1 : Int32) = (1 : Int32) := rfl
  obtain ⟨fs2, hr2, hrun2, hended2, hW2, hsame2⟩ := X0.leave (v := some (.int (nar .boolean (1 : Int32)))) (fun h => by rw [Bd.returns] at h; cases h)
  refine ⟨_, _, retN X0 hx (t := .boolean) Bd.returns (by simp) (hb hby own_d25_6) hr2, hrun2, hended2, _, _, rfl, ?_, ⟨_, rfl⟩, hW2, hsame2.mono (by decide) (by decide)⟩
  show Q_rmSEq Z wC cC zC wO a h0 n0 _ s₁.heap _
  exact ⟨(congrArg (fun z => some (Value.int z)) hn1), N0, e0⟩
theorem own_pd_11 : parseMethodDescriptor "(Ljava/lang/Object;)Z" = some ⟨[(.object "java/lang/Object")], some .boolean⟩ := by decide +kernel
theorem own_d24_0 : decode prog_57_method_2_code 0 = .ok (.aload_n 1, 1) := by decide +kernel
theorem own_d24_1 : decode prog_57_method_2_code 1 = .ok (.instanceof 8, 3) := by decide +kernel
theorem own_d24_4 : decode prog_57_method_2_code 4 = .ok (.ifCond .eq 87, 3) := by decide +kernel
theorem own_d24_7 : decode prog_57_method_2_code 7 = .ok (.aload_n 1, 1) := by decide +kernel
theorem own_d24_8 : decode prog_57_method_2_code 8 = .ok (.checkcast 8, 3) := by decide +kernel
theorem own_d24_11 : decode prog_57_method_2_code 11 = .ok (.astore_n 2, 1) := by decide +kernel
theorem own_d24_12 : decode prog_57_method_2_code 12 = .ok (.aload_n 0, 1) := by decide +kernel
theorem own_d24_13 : decode prog_57_method_2_code 13 = .ok (.getfield 7, 3) := by decide +kernel
theorem own_d24_16 : decode prog_57_method_2_code 16 = .ok (.aload_n 2, 1) := by decide +kernel
theorem own_d24_17 : decode prog_57_method_2_code 17 = .ok (.getfield 7, 3) := by decide +kernel
theorem own_d24_20 : decode prog_57_method_2_code 20 = .ok (.if_icmp .ne 71, 3) := by decide +kernel
theorem own_d24_23 : decode prog_57_method_2_code 23 = .ok (.aload_n 0, 1) := by decide +kernel
theorem own_d24_24 : decode prog_57_method_2_code 24 = .ok (.getfield 13, 3) := by decide +kernel
theorem own_d24_27 : decode prog_57_method_2_code 27 = .ok (.aload_n 2, 1) := by decide +kernel
theorem own_d24_28 : decode prog_57_method_2_code 28 = .ok (.getfield 13, 3) := by decide +kernel
theorem own_d24_31 : decode prog_57_method_2_code 31 = .ok (.invokevirtual 31, 3) := by decide +kernel
theorem own_d24_34 : decode prog_57_method_2_code 34 = .ok (.ifCond .eq 57, 3) := by decide +kernel
theorem own_d24_37 : decode prog_57_method_2_code 37 = .ok (.aload_n 0, 1) := by decide +kernel
theorem own_d24_38 : decode prog_57_method_2_code 38 = .ok (.getfield 17, 3) := by decide +kernel
theorem own_d24_41 : decode prog_57_method_2_code 41 = .ok (.aload_n 2, 1) := by decide +kernel
theorem own_d24_42 : decode prog_57_method_2_code 42 = .ok (.getfield 17, 3) := by decide +kernel
theorem own_d24_45 : decode prog_57_method_2_code 45 = .ok (.invokevirtual 31, 3) := by decide +kernel
theorem own_d24_48 : decode prog_57_method_2_code 48 = .ok (.ifCond .eq 43, 3) := by decide +kernel
theorem own_d24_51 : decode prog_57_method_2_code 51 = .ok (.aload_n 0, 1) := by decide +kernel
theorem own_d24_52 : decode prog_57_method_2_code 52 = .ok (.getfield 20, 3) := by decide +kernel
theorem own_d24_55 : decode prog_57_method_2_code 55 = .ok (.aload_n 2, 1) := by decide +kernel
theorem own_d24_56 : decode prog_57_method_2_code 56 = .ok (.getfield 20, 3) := by decide +kernel
theorem own_d24_59 : decode prog_57_method_2_code 59 = .ok (.invokevirtual 37, 3) := by decide +kernel
theorem own_d24_62 : decode prog_57_method_2_code 62 = .ok (.ifCond .eq 29, 3) := by decide +kernel
theorem own_d24_65 : decode prog_57_method_2_code 65 = .ok (.aload_n 0, 1) := by decide +kernel
theorem own_d24_66 : decode prog_57_method_2_code 66 = .ok (.getfield 24, 3) := by decide +kernel
theorem own_d24_69 : decode prog_57_method_2_code 69 = .ok (.aload_n 2, 1) := by decide +kernel
theorem own_d24_70 : decode prog_57_method_2_code 70 = .ok (.getfield 24, 3) := by decide +kernel
theorem own_d24_73 : decode prog_57_method_2_code 73 = .ok (.if_icmp .ne 18, 3) := by decide +kernel
theorem own_d24_76 : decode prog_57_method_2_code 76 = .ok (.aload_n 0, 1) := by decide +kernel
theorem own_d24_77 : decode prog_57_method_2_code 77 = .ok (.getfield 28, 3) := by decide +kernel
theorem own_d24_80 : decode prog_57_method_2_code 80 = .ok (.aload_n 2, 1) := by decide +kernel
theorem own_d24_81 : decode prog_57_method_2_code 81 = .ok (.getfield 28, 3) := by decide +kernel
theorem own_d24_84 : decode prog_57_method_2_code 84 = .ok (.if_icmp .ne 7, 3) := by decide +kernel
theorem own_d24_87 : decode prog_57_method_2_code 87 = .ok (.iconst 1, 1) := by decide +kernel
theorem own_d24_88 : decode prog_57_method_2_code 88 = .ok (.goto 4, 3) := by decide +kernel
theorem own_d24_92 : decode prog_57_method_2_code 92 = .ok (.ireturn, 1) := by decide +kernel
theorem own_ef_rmFEq (m : MethodId) (x0 : Addr) (x1 : Addr) : entryFrame m #[(.ref x0), (.ref x1)] 3 = mkF m 0 #[.val (.ref x0), .val (.ref x1), .unset] [] := by first | (simp [entryFrame, mkF, argsToLocals, Value.category]; done) | rfl
def Q_rmFEq (Z : State) (wC : Addr) (cC : Cell) (zC : Int32) (wO : Addr) (a : Addr) (n : Int32) (i : Addr) (nm : Addr) (ob : Addr) (sv : Int32) (l_ : Int32) (h0 : Heap) (n0 : Nat) (vv_ : Option Value) (hh_ : Heap) (LL_ : List Loc) : Prop := vv_ = some (.int (1 : Int32)) ∧ Fr n0 LL_ ∧ hh_ = h0
set_option maxRecDepth 65536 in
set_option maxHeartbeats 40000000 in
theorem rmFEq (l : Launch) (Z : State) (a0 : Array Value) (hw : ∀ d ∈ tables_1, d.before a0 Z = true) (ws : List Jvm.Cond) (wC : Addr) (cC : Cell) (zC : Int32) (wO : Addr) (GS : Glob Z wC cC zC wO) (a : Addr) (n : Int32) (i : Addr) (nm : Addr) (ob : Addr) (sv : Int32) (l_ : Int32) (h0 : Heap) (n0 : Nat) (Z0 : n0 ≤ h0.size) (O0 : Old Z n0 h0) (E_a : Exa Z h0 a "com/example/vestledger/vestledger/plan/Fund") (Fnumber : Fld Z h0 a "com/example/vestledger/vestledger/plan/Fund" "number" "I" (.int n)) (Fid : Fld Z h0 a "com/example/vestledger/vestledger/plan/Fund" "id" "Ljava/lang/String;" (.ref i)) (Fname : Fld Z h0 a "com/example/vestledger/vestledger/plan/Fund" "name" "Ljava/lang/String;" (.ref nm)) (FfixedPrice : Fld Z h0 a "com/example/vestledger/vestledger/plan/Fund" "fixedPrice" "Ljava/util/Optional;" (.ref ob)) (FcompanyStock : Fld Z h0 a "com/example/vestledger/vestledger/plan/Fund" "companyStock" "Z" (.int sv)) (Fline : Fld Z h0 a "com/example/vestledger/vestledger/plan/Fund" "line" "I" (.int l_)) (E_i : Exa Z h0 i "java/lang/String") (E_n : Exa Z h0 nm "java/lang/String") (E_o : Exa Z h0 ob "java/util/Optional") :
    MetFree l (⟨"com/example/vestledger/vestledger/plan/Fund", "equals", "(Ljava/lang/Object;)Z"⟩ : MethodName) (head1 (Jvm.Cond.code (⟨"com/example/vestledger/vestledger/plan/Fund", "equals", "(Ljava/lang/Object;)Z"⟩ : MethodName) prog_57_method_2_code 3 (some .boolean) :: ws) ({ frames := 1, cells := 0, slots := 0, locals := 14 } : Room)) (fun aa_ UU_ => aa_ = #[(.ref a), (.ref a)] ∧ Z.Warmed39 UU_.vm ∧ UU_.heap = h0) (fun _ _ _ _ _ => True) (fun _ UU_ oo_ UV_ => ∃ vv_ LL_, oo_ = .returned vv_ ∧ Q_rmFEq Z wC cC zC wO a n i nm ob sv l_ h0 n0 vv_ UV_.heap LL_ ∧ FrameEnd UU_ oo_ UV_ LL_ ({ frames := 1, cells := 0, slots := 0, locals := 14 } : Room).cells ({ frames := 1, cells := 0, slots := 0, locals := 14 } : Room).slots) := by
  refine MetFree.of_bodySF (plainFor_of_name own_pn_com_example_vestledger_vestledger_plan_Fund) hisR ?_
  intro p e s m args below meth c s₁ Bd hml0 hP hK
  obtain ⟨rfl, hZ, hh⟩ := hP
  have hx := Bd.exec
  have hby := Bd.bytes
  have hml : c.maxLocals = 3 := hml0
  have hown : s.vm.findClass "com/example/vestledger/vestledger/plan/Fund" = some m.cls := findClass_of_methodNamed Bd.named
  have hnm := (name_of_methodNamed Bd.named Bd.method).1
  have X0 : Stand p l e ({ frames := 1, cells := 0, slots := 0, locals := 14 } : Room) s m #[(.ref a), (.ref a)] below meth c s₁ [] 0 0 := Stand.of_body Bd
  have e0 : s₁.heap = h0 := by rw [← hh, Bd.state]; rfl
  have N0 := Fr.nil n0
  have hn0 : Z.heap.size = n0 := O0.1
  have KT0 : Keep h0 h0 [] := Keep.refl _ _
  refine own_enter (Φ := fun oo_ UV_ => ∃ vv_ LL_, oo_ = .returned vv_ ∧ Q_rmFEq Z wC cC zC wO a n i nm ob sv l_ h0 n0 vv_ UV_.heap LL_ ∧ FrameEnd s oo_ UV_ LL_ ({ frames := 1, cells := 0, slots := 0, locals := 14 } : Room).cells ({ frames := 1, cells := 0, slots := 0, locals := 14 } : Room).slots) (own_ef_rmFEq m a a) ?_
  refine own_by (T' := s₁) (g' := (mkF m 1 #[.val (.ref a), .val (.ref a), .unset] [(.ref a)])) (fun _ kt_ => XS.aloadN X0.here hx rfl (hb hby own_d24_0) rfl rfl kt_) ?_
  obtain ⟨T1, X1, e1, st1⟩ := instY X0 hx hZ hown (hw _ (List.mem_of_getElem? (i := 154) rfl)) e0 (Ins.self E_a) (g := (mkF m 1 #[.val (.ref a), .val (.ref a), .unset] [(.ref a)])) rfl rfl (hb hby own_d24_1)
  refine own_by (T' := T1) (g' := (mkF m 4 #[.val (.ref a), .val (.ref a), .unset] [(.int (1 : Int32))])) st1 ?_
  refine own_by (T' := T1) (g' := (mkF m 7 #[.val (.ref a), .val (.ref a), .unset] [])) (fun _ kt_ => XS.ifNo X1.here hx rfl (hb hby own_d24_4) rfl (XT.i0_eq_f (by decide)) kt_) ?_
  refine own_by (T' := T1) (g' := (mkF m 8 #[.val (.ref a), .val (.ref a), .unset] [(.ref a)])) (fun _ kt_ => XS.aloadN X1.here hx rfl (hb hby own_d24_7) rfl rfl kt_) ?_
  obtain ⟨T2, X2, e2, st2⟩ := castY X1 hx hZ hown (hw _ (List.mem_of_getElem? (i := 154) rfl)) e1 (Ins.self E_a) (g := (mkF m 8 #[.val (.ref a), .val (.ref a), .unset] [(.ref a)])) rfl rfl (hb hby own_d24_8)
  refine own_by (T' := T2) (g' := (mkF m 11 #[.val (.ref a), .val (.ref a), .unset] [(.ref a)])) st2 ?_
  refine own_by (T' := T2) (g' := (mkF m 12 #[.val (.ref a), .val (.ref a), .val (.ref a)] [])) (fun _ kt_ => XS.astoreN X2.here hx rfl (hb hby own_d24_11) rfl rfl (l' := #[.val (.ref a), .val (.ref a), .val (.ref a)]) rfl kt_) ?_
  refine own_by (T' := T2) (g' := (mkF m 13 #[.val (.ref a), .val (.ref a), .val (.ref a)] [(.ref a)])) (fun _ kt_ => XS.aloadN X2.here hx rfl (hb hby own_d24_12) rfl rfl kt_) ?_
  obtain ⟨T3, X3, e3, st3⟩ := getF X2 hx hZ hown (host := "") (Or.inl (hw _ (List.mem_of_getElem? (i := 51) rfl))) Via.refl e2 Fnumber (g := (mkF m 13 #[.val (.ref a), .val (.ref a), .val (.ref a)] [(.ref a)])) rfl rfl (hb hby own_d24_13)
  refine own_by (T' := T3) (g' := (mkF m 16 #[.val (.ref a), .val (.ref a), .val (.ref a)] [(.int n)])) st3 ?_
  refine own_by (T' := T3) (g' := (mkF m 17 #[.val (.ref a), .val (.ref a), .val (.ref a)] [(.ref a), (.int n)])) (fun _ kt_ => XS.aloadN X3.here hx rfl (hb hby own_d24_16) rfl rfl kt_) ?_
  obtain ⟨T4, X4, e4, st4⟩ := getF X3 hx hZ hown (host := "") (Or.inl (hw _ (List.mem_of_getElem? (i := 51) rfl))) Via.refl e3 Fnumber (g := (mkF m 17 #[.val (.ref a), .val (.ref a), .val (.ref a)] [(.ref a), (.int n)])) rfl rfl (hb hby own_d24_17)
  refine own_by (T' := T4) (g' := (mkF m 20 #[.val (.ref a), .val (.ref a), .val (.ref a)] [(.int n), (.int n)])) st4 ?_
  refine own_by (T' := T4) (g' := (mkF m 23 #[.val (.ref a), .val (.ref a), .val (.ref a)] [])) (fun _ kt_ => XS.icmpNo X4.here hx rfl (hb hby own_d24_20) rfl (XT.ii_ne_f (rfl : n = n)) kt_) ?_
  refine own_by (T' := T4) (g' := (mkF m 24 #[.val (.ref a), .val (.ref a), .val (.ref a)] [(.ref a)])) (fun _ kt_ => XS.aloadN X4.here hx rfl (hb hby own_d24_23) rfl rfl kt_) ?_
  obtain ⟨T5, X5, e5, st5⟩ := getF X4 hx hZ hown (host := "") (Or.inl (hw _ (List.mem_of_getElem? (i := 53) rfl))) Via.refl e4 Fid (g := (mkF m 24 #[.val (.ref a), .val (.ref a), .val (.ref a)] [(.ref a)])) rfl rfl (hb hby own_d24_24)
  refine own_by (T' := T5) (g' := (mkF m 27 #[.val (.ref a), .val (.ref a), .val (.ref a)] [(.ref i)])) st5 ?_
  refine own_by (T' := T5) (g' := (mkF m 28 #[.val (.ref a), .val (.ref a), .val (.ref a)] [(.ref a), (.ref i)])) (fun _ kt_ => XS.aloadN X5.here hx rfl (hb hby own_d24_27) rfl rfl kt_) ?_
  obtain ⟨T6, X6, e6, st6⟩ := getF X5 hx hZ hown (host := "") (Or.inl (hw _ (List.mem_of_getElem? (i := 53) rfl))) Via.refl e5 Fid (g := (mkF m 28 #[.val (.ref a), .val (.ref a), .val (.ref a)] [(.ref a), (.ref i)])) rfl rfl (hb hby own_d24_28)
  refine own_by (T' := T6) (g' := (mkF m 31 #[.val (.ref a), .val (.ref a), .val (.ref a)] [(.ref i), (.ref i)])) st6 ?_
  obtain ⟨cq7, kq7, q7a, q7b, q7c⟩ := isOf hZ e6 E_i
  obtain ⟨_, _, ⟨T7, L7, k7, n7⟩, -, X7, ⟨Lc7, hQ7, l7, y7, z7⟩, st7⟩ := X6.virtualBack hx (y := (⟨"java/lang/String", "equals", "(Ljava/lang/Object;)Z"⟩ : MethodName)) (z := (⟨"java/lang/String", "equals", "(Ljava/lang/Object;)Z"⟩ : MethodName)) hown (mvT hZ (hw _ (List.mem_of_getElem? (i := 155) rfl))) (mvT hZ (hw _ (List.mem_of_getElem? (i := 156) rfl))) (notFace_of_selects (args := #[]) (mvT hZ (hw _ (List.mem_of_getElem? (i := 158) rfl)))) (mvT hZ (hw _ (List.mem_of_getElem? (i := 158) rfl))) (mvT hZ (hw _ (List.mem_of_getElem? (i := 157) rfl))) (by decide) (backOf (W := 0) (rmSEq l Z a0 hw [] wC cC zC wO GS i h0 n0 (by omega) O0 ) hZ (hw _ (List.mem_of_getElem? (i := 159) rfl)) (hw _ (List.mem_of_getElem? (i := 7) rfl)) (by decide) (by decide)) q7a q7c (g := (mkF m 31 #[.val (.ref a), .val (.ref a), .val (.ref a)] [(.ref i), (.ref i)])) rfl (by rw [hml]; rfl) (Steps.refl _) (argsL := [(.ref i)]) (rest := []) (lenOf own_pd_11 rfl) rfl (by show 2 * 0 + _ ≤ _; exact Nat.le_of_eq rfl) (hb hby own_d24_31) (fun _ _ => ⟨rfl, e6, (by decide : 0 + 0 ≤ _), (by decide : 0 + 0 ≤ _)⟩)
  dsimp only [Pt.U, Pt.locs, Pt.cells, Pt.slots] at X7 l7 y7 z7 st7 hQ7
  subst l7 y7 z7
  obtain ⟨rfl, N7q, e7⟩ := hQ7
  have N8 := Fr.app N0 N7q
  refine own_by (T' := T7) (g' := (mkF m 34 #[.val (.ref a), .val (.ref a), .val (.ref a)] [(.int (1 : Int32))])) (fun _ kt_ => st7.trans kt_) ?_
  refine own_by (T' := T7) (g' := (mkF m 37 #[.val (.ref a), .val (.ref a), .val (.ref a)] [])) (fun _ kt_ => XS.ifNo X7.here hx rfl (hb hby own_d24_34) rfl (XT.i0_eq_f (by decide)) kt_) ?_
  refine own_by (T' := T7) (g' := (mkF m 38 #[.val (.ref a), .val (.ref a), .val (.ref a)] [(.ref a)])) (fun _ kt_ => XS.aloadN X7.here hx rfl (hb hby own_d24_37) rfl rfl kt_) ?_
  obtain ⟨T9, X9, e9, st9⟩ := getF X7 hx hZ hown (host := "") (Or.inl (hw _ (List.mem_of_getElem? (i := 55) rfl))) Via.refl e7 Fname (g := (mkF m 38 #[.val (.ref a), .val (.ref a), .val (.ref a)] [(.ref a)])) rfl rfl (hb hby own_d24_38)
  refine own_by (T' := T9) (g' := (mkF m 41 #[.val (.ref a), .val (.ref a), .val (.ref a)] [(.ref nm)])) st9 ?_
  refine own_by (T' := T9) (g' := (mkF m 42 #[.val (.ref a), .val (.ref a), .val (.ref a)] [(.ref a), (.ref nm)])) (fun _ kt_ => XS.aloadN X9.here hx rfl (hb hby own_d24_41) rfl rfl kt_) ?_
  obtain ⟨T10, X10, e10, st10⟩ := getF X9 hx hZ hown (host := "") (Or.inl (hw _ (List.mem_of_getElem? (i := 55) rfl))) Via.refl e9 Fname (g := (mkF m 42 #[.val (.ref a), .val (.ref a), .val (.ref a)] [(.ref a), (.ref nm)])) rfl rfl (hb hby own_d24_42)
  refine own_by (T' := T10) (g' := (mkF m 45 #[.val (.ref a), .val (.ref a), .val (.ref a)] [(.ref nm), (.ref nm)])) st10 ?_
  obtain ⟨cq11, kq11, q11a, q11b, q11c⟩ := isOf hZ e10 E_n
  obtain ⟨_, _, ⟨T11, L11, k11, n11⟩, -, X11, ⟨Lc11, hQ11, l11, y11, z11⟩, st11⟩ := X10.virtualBack hx (y := (⟨"java/lang/String", "equals", "(Ljava/lang/Object;)Z"⟩ : MethodName)) (z := (⟨"java/lang/String", "equals", "(Ljava/lang/Object;)Z"⟩ : MethodName)) hown (mvT hZ (hw _ (List.mem_of_getElem? (i := 155) rfl))) (mvT hZ (hw _ (List.mem_of_getElem? (i := 156) rfl))) (notFace_of_selects (args := #[]) (mvT hZ (hw _ (List.mem_of_getElem? (i := 158) rfl)))) (mvT hZ (hw _ (List.mem_of_getElem? (i := 158) rfl))) (mvT hZ (hw _ (List.mem_of_getElem? (i := 157) rfl))) (by decide) (backOf (W := 0) (rmSEq l Z a0 hw [] wC cC zC wO GS nm h0 n0 (by omega) O0 ) hZ (hw _ (List.mem_of_getElem? (i := 159) rfl)) (hw _ (List.mem_of_getElem? (i := 7) rfl)) (by decide) (by decide)) q11a q11c (g := (mkF m 45 #[.val (.ref a), .val (.ref a), .val (.ref a)] [(.ref nm), (.ref nm)])) rfl (by rw [hml]; rfl) (Steps.refl _) (argsL := [(.ref nm)]) (rest := []) (lenOf own_pd_11 rfl) rfl (by show 2 * 0 + _ ≤ _; exact Nat.le_of_eq rfl) (hb hby own_d24_45) (fun _ _ => ⟨rfl, e10, (by decide : 0 + 0 ≤ _), (by decide : 0 + 0 ≤ _)⟩)
  dsimp only [Pt.U, Pt.locs, Pt.cells, Pt.slots] at X11 l11 y11 z11 st11 hQ11
  subst l11 y11 z11
  obtain ⟨rfl, N11q, e11⟩ := hQ11
  have N12 := Fr.app N8 N11q
  refine own_by (T' := T11) (g' := (mkF m 48 #[.val (.ref a), .val (.ref a), .val (.ref a)] [(.int (1 : Int32))])) (fun _ kt_ => st11.trans kt_) ?_
  refine own_by (T' := T11) (g' := (mkF m 51 #[.val (.ref a), .val (.ref a), .val (.ref a)] [])) (fun _ kt_ => XS.ifNo X11.here hx rfl (hb hby own_d24_48) rfl (XT.i0_eq_f (by decide)) kt_) ?_
  refine own_by (T' := T11) (g' := (mkF m 52 #[.val (.ref a), .val (.ref a), .val (.ref a)] [(.ref a)])) (fun _ kt_ => XS.aloadN X11.here hx rfl (hb hby own_d24_51) rfl rfl kt_) ?_
  obtain ⟨T13, X13, e13, st13⟩ := getF X11 hx hZ hown (host := "") (Or.inl (hw _ (List.mem_of_getElem? (i := 57) rfl))) Via.refl e11 FfixedPrice (g := (mkF m 52 #[.val (.ref a), .val (.ref a), .val (.ref a)] [(.ref a)])) rfl rfl (hb hby own_d24_52)
  refine own_by (T' := T13) (g' := (mkF m 55 #[.val (.ref a), .val (.ref a), .val (.ref a)] [(.ref ob)])) st13 ?_
  refine own_by (T' := T13) (g' := (mkF m 56 #[.val (.ref a), .val (.ref a), .val (.ref a)] [(.ref a), (.ref ob)])) (fun _ kt_ => XS.aloadN X13.here hx rfl (hb hby own_d24_55) rfl rfl kt_) ?_
  obtain ⟨T14, X14, e14, st14⟩ := getF X13 hx hZ hown (host := "") (Or.inl (hw _ (List.mem_of_getElem? (i := 57) rfl))) Via.refl e13 FfixedPrice (g := (mkF m 56 #[.val (.ref a), .val (.ref a), .val (.ref a)] [(.ref a), (.ref ob)])) rfl rfl (hb hby own_d24_56)
  refine own_by (T' := T14) (g' := (mkF m 59 #[.val (.ref a), .val (.ref a), .val (.ref a)] [(.ref ob), (.ref ob)])) st14 ?_
  obtain ⟨cq15, kq15, q15a, q15b, q15c⟩ := isOf hZ e14 E_o
  obtain ⟨_, _, ⟨T15, L15, k15, n15⟩, -, X15, ⟨Lc15, hQ15, l15, y15, z15⟩, st15⟩ := X14.virtualBack hx (y := (⟨"java/util/Optional", "equals", "(Ljava/lang/Object;)Z"⟩ : MethodName)) (z := (⟨"java/util/Optional", "equals", "(Ljava/lang/Object;)Z"⟩ : MethodName)) hown (mvT hZ (hw _ (List.mem_of_getElem? (i := 160) rfl))) (mvT hZ (hw _ (List.mem_of_getElem? (i := 129) rfl))) (notFace_of_selects (args := #[]) (mvT hZ (hw _ (List.mem_of_getElem? (i := 131) rfl)))) (mvT hZ (hw _ (List.mem_of_getElem? (i := 131) rfl))) (mvT hZ (hw _ (List.mem_of_getElem? (i := 130) rfl))) (by decide) (backOf (W := 0) (rmOEq l Z a0 hw [] wC cC zC wO GS ob h0 n0 (by omega) O0 ) hZ (hw _ (List.mem_of_getElem? (i := 132) rfl)) (hw _ (List.mem_of_getElem? (i := 39) rfl)) (by decide) (by decide)) q15a q15c (g := (mkF m 59 #[.val (.ref a), .val (.ref a), .val (.ref a)] [(.ref ob), (.ref ob)])) rfl (by rw [hml]; rfl) (Steps.refl _) (argsL := [(.ref ob)]) (rest := []) (lenOf own_pd_11 rfl) rfl (by show 2 * 0 + _ ≤ _; exact Nat.le_of_eq rfl) (hb hby own_d24_59) (fun _ _ => ⟨rfl, e14, (by decide : 0 + 0 ≤ _), (by decide : 0 + 0 ≤ _)⟩)
  dsimp only [Pt.U, Pt.locs, Pt.cells, Pt.slots] at X15 l15 y15 z15 st15 hQ15
  subst l15 y15 z15
  obtain ⟨rfl, N15q, e15⟩ := hQ15
  have N16 := Fr.app N12 N15q
  refine own_by (T' := T15) (g' := (mkF m 62 #[.val (.ref a), .val (.ref a), .val (.ref a)] [(.int (1 : Int32))])) (fun _ kt_ => st15.trans kt_) ?_
  refine own_by (T' := T15) (g' := (mkF m 65 #[.val (.ref a), .val (.ref a), .val (.ref a)] [])) (fun _ kt_ => XS.ifNo X15.here hx rfl (hb hby own_d24_62) rfl (XT.i0_eq_f (by decide)) kt_) ?_
  refine own_by (T' := T15) (g' := (mkF m 66 #[.val (.ref a), .val (.ref a), .val (.ref a)] [(.ref a)])) (fun _ kt_ => XS.aloadN X15.here hx rfl (hb hby own_d24_65) rfl rfl kt_) ?_
  obtain ⟨T17, X17, e17, st17⟩ := getF X15 hx hZ hown (host := "") (Or.inl (hw _ (List.mem_of_getElem? (i := 59) rfl))) Via.refl e15 FcompanyStock (g := (mkF m 66 #[.val (.ref a), .val (.ref a), .val (.ref a)] [(.ref a)])) rfl rfl (hb hby own_d24_66)
  refine own_by (T' := T17) (g' := (mkF m 69 #[.val (.ref a), .val (.ref a), .val (.ref a)] [(.int sv)])) st17 ?_
  refine own_by (T' := T17) (g' := (mkF m 70 #[.val (.ref a), .val (.ref a), .val (.ref a)] [(.ref a), (.int sv)])) (fun _ kt_ => XS.aloadN X17.here hx rfl (hb hby own_d24_69) rfl rfl kt_) ?_
  obtain ⟨T18, X18, e18, st18⟩ := getF X17 hx hZ hown (host := "") (Or.inl (hw _ (List.mem_of_getElem? (i := 59) rfl))) Via.refl e17 FcompanyStock (g := (mkF m 70 #[.val (.ref a), .val (.ref a), .val (.ref a)] [(.ref a), (.int sv)])) rfl rfl (hb hby own_d24_70)
  refine own_by (T' := T18) (g' := (mkF m 73 #[.val (.ref a), .val (.ref a), .val (.ref a)] [(.int sv), (.int sv)])) st18 ?_
  refine own_by (T' := T18) (g' := (mkF m 76 #[.val (.ref a), .val (.ref a), .val (.ref a)] [])) (fun _ kt_ => XS.icmpNo X18.here hx rfl (hb hby own_d24_73) rfl (XT.ii_ne_f (rfl : sv = sv)) kt_) ?_
  refine own_by (T' := T18) (g' := (mkF m 77 #[.val (.ref a), .val (.ref a), .val (.ref a)] [(.ref a)])) (fun _ kt_ => XS.aloadN X18.here hx rfl (hb hby own_d24_76) rfl rfl kt_) ?_
  obtain ⟨T19, X19, e19, st19⟩ := getF X18 hx hZ hown (host := "") (Or.inl (hw _ (List.mem_of_getElem? (i := 61) rfl))) Via.refl e18 Fline (g := (mkF m 77 #[.val (.ref a), .val (.ref a), .val (.ref a)] [(.ref a)])) rfl rfl (hb hby own_d24_77)
  refine own_by (T' := T19) (g' := (mkF m 80 #[.val (.ref a), .val (.ref a), .val (.ref a)] [(.int l_)])) st19 ?_
  refine own_by (T' := T19) (g' := (mkF m 81 #[.val (.ref a), .val (.ref a), .val (.ref a)] [(.ref a), (.int l_)])) (fun _ kt_ => XS.aloadN X19.here hx rfl (hb hby own_d24_80) rfl rfl kt_) ?_
  obtain ⟨T20, X20, e20, st20⟩ := getF X19 hx hZ hown (host := "") (Or.inl (hw _ (List.mem_of_getElem? (i := 61) rfl))) Via.refl e19 Fline (g := (mkF m 81 #[.val (.ref a), .val (.ref a), .val (.ref a)] [(.ref a), (.int l_)])) rfl rfl (hb hby own_d24_81)
  refine own_by (T' := T20) (g' := (mkF m 84 #[.val (.ref a), .val (.ref a), .val (.ref a)] [(.int l_), (.int l_)])) st20 ?_
  refine own_by (T' := T20) (g' := (mkF m 87 #[.val (.ref a), .val (.ref a), .val (.ref a)] [])) (fun _ kt_ => XS.icmpNo X20.here hx rfl (hb hby own_d24_84) rfl (XT.ii_ne_f (rfl : l_ = l_)) kt_) ?_
  refine own_by (T' := T20) (g' := (mkF m 88 #[.val (.ref a), .val (.ref a), .val (.ref a)] [(.int (1 : Int32))])) (fun _ kt_ => XS.iconst X20.here hx rfl (hb hby own_d24_87) kt_) ?_
  refine own_by (T' := T20) (g' := (mkF m 92 #[.val (.ref a), .val (.ref a), .val (.ref a)] [(.int (1 : Int32))])) (fun _ kt_ => XS.goto X20.here hx rfl (pc0 := 88) (pc' := 92) rfl (hb hby own_d24_88) (by decide) (by decide) kt_) ?_
  have hn21 : nar .boolean (1 : Int32) = (1 : Int32) := rfl
  obtain ⟨fs22, hr22, hrun22, hended22, hW22, hsame22⟩ := X20.leave (v := some (.int (nar .boolean (1 : Int32)))) (fun h => by rw [Bd.returns] at h; cases h)
  refine ⟨_, _, retN X20 hx (t := .boolean) Bd.returns (by simp) (hb hby own_d24_92) hr22, hrun22, hended22, _, _, rfl, ?_, ⟨_, rfl⟩, hW22, hsame22.mono (by decide) (by decide)⟩
  show Q_rmFEq Z wC cC zC wO a n i nm ob sv l_ h0 n0 _ T20.heap _
  exact ⟨(congrArg (fun z => some (Value.int z)) hn21), N16, e20⟩
theorem own_pd_12 : parseMethodDescriptor "(I)Ljava/lang/String;" = some ⟨[.int], some (.object "java/lang/String")⟩ := by decide +kernel
theorem own_pd_13 : parseMethodDescriptor "()Ljava/util/Optional;" = some ⟨[], some (.object "java/util/Optional")⟩ := by decide +kernel
theorem own_pd_14 : parseMethodDescriptor "(ILjava/lang/String;Ljava/lang/String;Ljava/util/Optional;ZI)V" = some ⟨[.int, (.object "java/lang/String"), (.object "java/lang/String"), (.object "java/util/Optional"), .boolean, .int], none⟩ := by decide +kernel
theorem own_pd_15 : parseMethodDescriptor "(Lcom/example/vestledger/vestledger/plan/Fund;)Lcom/example/vestledger/vestledger/plan/Elections$Part;" = some ⟨[(.object "com/example/vestledger/vestledger/plan/Fund")], some (.object "com/example/vestledger/vestledger/plan/Elections$Part")⟩ := by decide +kernel
theorem own_pd_16 : parseMethodDescriptor "()Z" = some ⟨[], some .boolean⟩ := by decide +kernel
theorem own_pd_17 : parseMethodDescriptor "()Ljava/lang/Object;" = some ⟨[], some (.object "java/lang/Object")⟩ := by decide +kernel
theorem own_pd_18 : parseMethodDescriptor "(Lcom/example/vestledger/vestledger/plan/PaymentForm;I)V" = some ⟨[(.object "com/example/vestledger/vestledger/plan/PaymentForm"), .int], none⟩ := by decide +kernel
theorem own_pd_19 : parseMethodDescriptor "(I)Ljava/lang/Integer;" = some ⟨[.int], some (.object "java/lang/Integer")⟩ := by decide +kernel
theorem own_ef_rm0 (m : MethodId) (x0 : Int32) (x1 : Int32) (x2 : Int32) (x3 : Int32) (x4 : Int32) (x5 : Int32) : entryFrame m #[(.int x0), (.int x1), (.int x2), (.int x3), (.int x4), (.int x5)] maxLocals = mkF m 0 #[.val (.int x0), .val (.int x1), .val (.int x2), .val (.int x3), .val (.int x4), .val (.int x5), .unset, .unset, .unset, .unset, .unset, .unset, .unset, .unset, .unset, .unset, .unset] [] := by first | (simp [entryFrame, mkF, argsToLocals, Value.category, maxLocals]; done) | rfl
def Q_rm0 (Z : State) (wC : Addr) (cC : Cell) (zC : Int32) (wO : Addr) (p0 : Int32) (p1 : Int32) (p2 : Int32) (p3 : Int32) (p4 : Int32) (p5 : Int32) (h0 : Heap) (n0 : Nat) (vv_ : Option Value) (hh_ : Heap) (LL_ : List Loc) : Prop := vv_ = some (.int (1 : Int32)) ∧ Fr n0 LL_
set_option maxRecDepth 65536 in
set_option maxHeartbeats 40000000 in
theorem rm0 (l : Launch) (Z : State) (a0 : Array Value) (hw : ∀ d ∈ tables_1, d.before a0 Z = true) (ws : List Jvm.Cond) (wC : Addr) (cC : Cell) (zC : Int32) (wO : Addr) (GS : Glob Z wC cC zC wO) (p0 : Int32) (p1 : Int32) (p2 : Int32) (p3 : Int32) (p4 : Int32) (p5 : Int32) (h0 : Heap) (n0 : Nat) (Z0 : n0 ≤ h0.size) (O0 : Old Z n0 h0) :
    MetFree l x (head1 (Jvm.Cond.code x code maxLocals ret :: ws) room_1) (fun aa_ UU_ => aa_ = #[(.int p0), (.int p1), (.int p2), (.int p3), (.int p4), (.int p5)] ∧ Z.Warmed39 UU_.vm ∧ UU_.heap = h0) (fun _ _ _ _ _ => True) (fun _ UU_ oo_ UV_ => ∃ vv_ LL_, oo_ = .returned vv_ ∧ Q_rm0 Z wC cC zC wO p0 p1 p2 p3 p4 p5 h0 n0 vv_ UV_.heap LL_ ∧ FrameEnd UU_ oo_ UV_ LL_ 16 41) := by
  refine MetFree.of_bodySF (plainFor_of_name own_pn_com_example_vestledger_vestledger_plan_PartOfCompanyStockPinLaw) hisR ?_
  intro p e s m args below meth c s₁ Bd hml0 hP hK
  obtain ⟨rfl, hZ, hh⟩ := hP
  have hx := Bd.exec
  have hby := Bd.bytes
  have hml : c.maxLocals = 17 := hml0
  have hown : s.vm.findClass "com/example/vestledger/vestledger/plan/PartOfCompanyStockPinLaw" = some m.cls := findClass_of_methodNamed Bd.named
  have hnm := (name_of_methodNamed Bd.named Bd.method).1
  have X0 : Stand p l e room_1 s m #[(.int p0), (.int p1), (.int p2), (.int p3), (.int p4), (.int p5)] below meth c s₁ [] 0 0 := Stand.of_body Bd
  have e0 : s₁.heap = h0 := by rw [← hh, Bd.state]; rfl
  have N0 := Fr.nil n0
  have hn0 : Z.heap.size = n0 := O0.1
  have KT0 : Keep h0 h0 [] := Keep.refl _ _
  refine own_enter (Φ := fun oo_ UV_ => ∃ vv_ LL_, oo_ = .returned vv_ ∧ Q_rm0 Z wC cC zC wO p0 p1 p2 p3 p4 p5 h0 n0 vv_ UV_.heap LL_ ∧ FrameEnd s oo_ UV_ LL_ 16 41) (own_ef_rm0 m p0 p1 p2 p3 p4 p5) ?_
  refine own_by (T' := s₁) (g' := (mkF m 2 #[.val (.int p0), .val (.int p1), .val (.int p2), .val (.int p3), .val (.int p4), .val (.int p5), .unset, .unset, .unset, .unset, .unset, .unset, .unset, .unset, .unset, .unset, .unset] [(.int p4)])) (fun _ kt_ => XS.iload X0.here hx rfl (hb hby at_0) rfl kt_) ?_
  obtain ⟨_, _, ⟨T1, L1, k1, n1⟩, -, X1, ⟨Lc1, hQ1, l1, y1, z1⟩, st1⟩ := Jvm.LawKit.callS X0 hx (y := (⟨"com/example/vestledger/vestledger/plan/PartOfCompanyStockPinLaw", "two", "(I)Ljava/lang/String;"⟩ : MethodName)) hown (mvT hZ (hw _ (List.mem_of_getElem? (i := 0) rfl))) (mvT hZ (hw _ (List.mem_of_getElem? (i := 1) rfl))) (mvT hZ (hw _ (List.mem_of_getElem? (i := 2) rfl))) (mvT hZ (hw _ (List.mem_of_getElem? (i := 3) rfl))) (by decide) (backOf (W := 0) (rmTwo l Z a0 hw [] wC cC zC wO GS p4 h0 n0 (by omega) O0 ) hZ (hw _ (List.mem_of_getElem? (i := 3) rfl)) (hw _ (List.mem_of_getElem? (i := 2) rfl)) (by decide) (by decide)) (g := (mkF m 2 #[.val (.int p0), .val (.int p1), .val (.int p2), .val (.int p3), .val (.int p4), .val (.int p5), .unset, .unset, .unset, .unset, .unset, .unset, .unset, .unset, .unset, .unset, .unset] [(.int p4)])) rfl (by rw [hml]; rfl) (argsL := [(.int p4)]) (rest := []) (lenOf own_pd_12 rfl) rfl (by show 2 * 0 + _ ≤ _; exact Nat.le_of_eq rfl) (hb hby at_2) (fun _ _ => ⟨rfl, e0, (by decide : 0 + 3 ≤ _), (by decide : 0 + 8 ≤ _)⟩)
  dsimp only [Pt.U, Pt.locs, Pt.cells, Pt.slots] at X1 l1 y1 z1 st1 hQ1
  subst l1 y1 z1
  obtain ⟨x_2, rfl, N1q, K1, p1_0, p1_1⟩ := hQ1
  have N3 := Fr.app N0 N1q
  have gx_2 : h0.size ≤ x_2 := p1_0
  have zzK1 : h0.size ≤ T1.heap.size := K1.1
  have oo4 : Old Z n0 T1.heap := O0.keep K1 all0
  have kt5 : Keep h0 T1.heap [] := KT0.trans K1 all0
  refine own_by (T' := T1) (g' := (mkF m 5 #[.val (.int p0), .val (.int p1), .val (.int p2), .val (.int p3), .val (.int p4), .val (.int p5), .unset, .unset, .unset, .unset, .unset, .unset, .unset, .unset, .unset, .unset, .unset] [(.ref x_2)])) st1 ?_
  refine own_by (T' := T1) (g' := (mkF m 7 #[.val (.int p0), .val (.int p1), .val (.int p2), .val (.int p3), .val (.int p4), .val (.int p5), .val (.ref x_2), .unset, .unset, .unset, .unset, .unset, .unset, .unset, .unset, .unset, .unset] [])) (fun _ kt_ => XS.astore X1.here hx rfl (hb hby at_5) rfl rfl (l' := #[.val (.int p0), .val (.int p1), .val (.int p2), .val (.int p3), .val (.int p4), .val (.int p5), .val (.ref x_2), .unset, .unset, .unset, .unset, .unset, .unset, .unset, .unset, .unset, .unset]) rfl kt_) ?_
  refine own_by (T' := T1) (g' := (mkF m 9 #[.val (.int p0), .val (.int p1), .val (.int p2), .val (.int p3), .val (.int p4), .val (.int p5), .val (.ref x_2), .unset, .unset, .unset, .unset, .unset, .unset, .unset, .unset, .unset, .unset] [(.int p4)])) (fun _ kt_ => XS.iload X1.here hx rfl (hb hby at_7) rfl kt_) ?_
  refine own_by (T' := T1) (g' := (mkF m 11 #[.val (.int p0), .val (.int p1), .val (.int p2), .val (.int p3), .val (.int p4), .val (.int p5), .val (.ref x_2), .unset, .unset, .unset, .unset, .unset, .unset, .unset, .unset, .unset, .unset] [(.int (16 : Int32)), (.int p4)])) (fun _ kt_ => XS.bipush X1.here hx rfl (hb hby at_9) kt_) ?_
  refine own_by (T' := T1) (g' := (mkF m 12 #[.val (.int p0), .val (.int p1), .val (.int p2), .val (.int p3), .val (.int p4), .val (.int p5), .val (.ref x_2), .unset, .unset, .unset, .unset, .unset, .unset, .unset, .unset, .unset, .unset] [(.int ((p4.toUInt32 >>> ((16 : Int32) &&& 31).toUInt32).toInt32))])) (fun _ kt_ => XS.iushr X1.here hx rfl (hb hby at_11) rfl kt_) ?_
  obtain ⟨_, _, ⟨T6, L6, k6, n6⟩, -, X6, ⟨Lc6, hQ6, l6, y6, z6⟩, st6⟩ := Jvm.LawKit.callS X1 hx (y := (⟨"com/example/vestledger/vestledger/plan/PartOfCompanyStockPinLaw", "two", "(I)Ljava/lang/String;"⟩ : MethodName)) hown (mvT hZ (hw _ (List.mem_of_getElem? (i := 0) rfl))) (mvT hZ (hw _ (List.mem_of_getElem? (i := 1) rfl))) (mvT hZ (hw _ (List.mem_of_getElem? (i := 2) rfl))) (mvT hZ (hw _ (List.mem_of_getElem? (i := 3) rfl))) (by decide) (backOf (W := 0) (rmTwo l Z a0 hw [] wC cC zC wO GS ((p4.toUInt32 >>> ((16 : Int32) &&& 31).toUInt32).toInt32) T1.heap n0 (by omega) oo4 ) hZ (hw _ (List.mem_of_getElem? (i := 3) rfl)) (hw _ (List.mem_of_getElem? (i := 2) rfl)) (by decide) (by decide)) (g := (mkF m 12 #[.val (.int p0), .val (.int p1), .val (.int p2), .val (.int p3), .val (.int p4), .val (.int p5), .val (.ref x_2), .unset, .unset, .unset, .unset, .unset, .unset, .unset, .unset, .unset, .unset] [(.int ((p4.toUInt32 >>> ((16 : Int32) &&& 31).toUInt32).toInt32))])) rfl (by rw [hml]; rfl) (argsL := [(.int ((p4.toUInt32 >>> ((16 : Int32) &&& 31).toUInt32).toInt32))]) (rest := []) (lenOf own_pd_12 rfl) rfl (by show 2 * 0 + _ ≤ _; exact Nat.le_of_eq rfl) (hb hby at_12) (fun _ _ => ⟨rfl, rfl, (by decide : 3 + 3 ≤ _), (by decide : 8 + 8 ≤ _)⟩)
  dsimp only [Pt.U, Pt.locs, Pt.cells, Pt.slots] at X6 l6 y6 z6 st6 hQ6
  subst l6 y6 z6
  obtain ⟨x_7, rfl, N6q, K6, p6_0, p6_1⟩ := hQ6
  have N8 := Fr.app N3 N6q
  have gx_7 : T1.heap.size ≤ x_7 := p6_0
  have zzK6 : T1.heap.size ≤ T6.heap.size := K6.1
  have oo9 : Old Z n0 T6.heap := oo4.keep K6 all0
  have kt10 : Keep h0 T6.heap [] := kt5.trans K6 all0
  refine own_by (T' := T6) (g' := (mkF m 15 #[.val (.int p0), .val (.int p1), .val (.int p2), .val (.int p3), .val (.int p4), .val (.int p5), .val (.ref x_2), .unset, .unset, .unset, .unset, .unset, .unset, .unset, .unset, .unset, .unset] [(.ref x_7)])) st6 ?_
  refine own_by (T' := T6) (g' := (mkF m 17 #[.val (.int p0), .val (.int p1), .val (.int p2), .val (.int p3), .val (.int p4), .val (.int p5), .val (.ref x_2), .val (.ref x_7), .unset, .unset, .unset, .unset, .unset, .unset, .unset, .unset, .unset] [])) (fun _ kt_ => XS.astore X6.here hx rfl (hb hby at_15) rfl rfl (l' := #[.val (.int p0), .val (.int p1), .val (.int p2), .val (.int p3), .val (.int p4), .val (.int p5), .val (.ref x_2), .val (.ref x_7), .unset, .unset, .unset, .unset, .unset, .unset, .unset, .unset, .unset]) rfl kt_) ?_
  have J11 : ∀ (T11 : State) (lo11 : List Loc) (X11 : Stand p l e room_1 s m #[(.int p0), (.int p1), (.int p2), (.int p3), (.int p4), (.int p5)] below meth c T11 lo11 6 16) (e11 : T11.heap = T6.heap) (N11 : Fr n0 lo11) (sv : Int32), True → OGoal p e below (fun oo_ UV_ => ∃ vv_ LL_, oo_ = .returned vv_ ∧ Q_rm0 Z wC cC zC wO p0 p1 p2 p3 p4 p5 h0 n0 vv_ UV_.heap LL_ ∧ FrameEnd s oo_ UV_ LL_ 16 41) T11 (mkF m 29 #[.val (.int p0), .val (.int p1), .val (.int p2), .val (.int p3), .val (.int p4), .val (.int p5), .val (.ref x_2), .val (.ref x_7), .unset, .unset, .unset, .unset, .unset, .unset, .unset, .unset, .unset] [(.int sv)]) := by
    intro T11 lo11 X11 e11 N11 sv  hj12
    refine own_by (T' := T11) (g' := (mkF m 31 #[.val (.int p0), .val (.int p1), .val (.int p2), .val (.int p3), .val (.int p4), .val (.int p5), .val (.ref x_2), .val (.ref x_7), .val (.int sv), .unset, .unset, .unset, .unset, .unset, .unset, .unset, .unset] [])) (fun _ kt_ => XS.istore X11.here hx rfl (hb hby at_29) rfl (l' := #[.val (.int p0), .val (.int p1), .val (.int p2), .val (.int p3), .val (.int p4), .val (.int p5), .val (.ref x_2), .val (.ref x_7), .val (.int sv), .unset, .unset, .unset, .unset, .unset, .unset, .unset, .unset]) rfl kt_) ?_
    obtain ⟨T13, h13, X13, e13, E13, A13, D13, -, st13⟩ := newO X11 hx hZ hown (hw _ (List.mem_of_getElem? (i := 34) rfl)) (hw _ (List.mem_of_getElem? (i := 35) rfl)) (hw _ (List.mem_of_getElem? (i := 36) rfl)) e11 (g := (mkF m 31 #[.val (.int p0), .val (.int p1), .val (.int p2), .val (.int p3), .val (.int p4), .val (.int p5), .val (.ref x_2), .val (.ref x_7), .val (.int sv), .unset, .unset, .unset, .unset, .unset, .unset, .unset, .unset] [])) rfl (hb hby at_31) (by decide) (by decide)
    obtain ⟨b13, g13⟩ : ∃ z, z = T6.heap.size := ⟨_, rfl⟩
    rw [← g13] at A13 D13 st13
    have K14 : Keep T6.heap h13 [] := own_kext E13
    have zzK14 : T6.heap.size ≤ h13.size := K14.1
    have oo15 : Old Z n0 h13 := oo9.keep K14 all0
    have kt16 : Keep h0 h13 [] := kt10.trans K14 all0
    have lab13 : b13 < h13.size := A13.lt
    have f17 : Fld Z h13 b13 "com/example/vestledger/vestledger/plan/Fund" "number" "I" (.int (0 : Int32)) := D13 (Or.inr (hw _ (List.mem_of_getElem? (i := 52) rfl))) (ty := .int) (by decide)
    have f18 : Fld Z h13 b13 "com/example/vestledger/vestledger/plan/Fund" "id" "Ljava/lang/String;" .null := D13 (Or.inr (hw _ (List.mem_of_getElem? (i := 54) rfl))) (ty := (.object "java/lang/String")) (by decide)
    have f19 : Fld Z h13 b13 "com/example/vestledger/vestledger/plan/Fund" "name" "Ljava/lang/String;" .null := D13 (Or.inr (hw _ (List.mem_of_getElem? (i := 56) rfl))) (ty := (.object "java/lang/String")) (by decide)
    have f20 : Fld Z h13 b13 "com/example/vestledger/vestledger/plan/Fund" "fixedPrice" "Ljava/util/Optional;" .null := D13 (Or.inr (hw _ (List.mem_of_getElem? (i := 58) rfl))) (ty := (.object "java/util/Optional")) (by decide)
    have f21 : Fld Z h13 b13 "com/example/vestledger/vestledger/plan/Fund" "companyStock" "Z" (.int (0 : Int32)) := D13 (Or.inr (hw _ (List.mem_of_getElem? (i := 60) rfl))) (ty := .boolean) (by decide)
    have f22 : Fld Z h13 b13 "com/example/vestledger/vestledger/plan/Fund" "line" "I" (.int (0 : Int32)) := D13 (Or.inr (hw _ (List.mem_of_getElem? (i := 62) rfl))) (ty := .int) (by decide)
    refine own_by (T' := T13) (g' := (mkF m 34 #[.val (.int p0), .val (.int p1), .val (.int p2), .val (.int p3), .val (.int p4), .val (.int p5), .val (.ref x_2), .val (.ref x_7), .val (.int sv), .unset, .unset, .unset, .unset, .unset, .unset, .unset, .unset] [(.ref b13)])) st13 ?_
    refine own_by (T' := T13) (g' := (mkF m 35 #[.val (.int p0), .val (.int p1), .val (.int p2), .val (.int p3), .val (.int p4), .val (.int p5), .val (.ref x_2), .val (.ref x_7), .val (.int sv), .unset, .unset, .unset, .unset, .unset, .unset, .unset, .unset] [(.ref b13), (.ref b13)])) (fun _ kt_ => XS.dup X13.here hx rfl (hb hby at_34) rfl rfl kt_) ?_
    refine own_by (T' := T13) (g' := (mkF m 36 #[.val (.int p0), .val (.int p1), .val (.int p2), .val (.int p3), .val (.int p4), .val (.int p5), .val (.ref x_2), .val (.ref x_7), .val (.int sv), .unset, .unset, .unset, .unset, .unset, .unset, .unset, .unset] [(.int p3), (.ref b13), (.ref b13)])) (fun _ kt_ => XS.iloadN X13.here hx rfl (hb hby at_35) rfl kt_) ?_
    refine own_by (T' := T13) (g' := (mkF m 38 #[.val (.int p0), .val (.int p1), .val (.int p2), .val (.int p3), .val (.int p4), .val (.int p5), .val (.ref x_2), .val (.ref x_7), .val (.int sv), .unset, .unset, .unset, .unset, .unset, .unset, .unset, .unset] [(.ref x_2), (.int p3), (.ref b13), (.ref b13)])) (fun _ kt_ => XS.aload X13.here hx rfl (hb hby at_36) rfl rfl kt_) ?_
    refine own_by (T' := T13) (g' := (mkF m 40 #[.val (.int p0), .val (.int p1), .val (.int p2), .val (.int p3), .val (.int p4), .val (.int p5), .val (.ref x_2), .val (.ref x_7), .val (.int sv), .unset, .unset, .unset, .unset, .unset, .unset, .unset, .unset] [(.ref x_7), (.ref x_2), (.int p3), (.ref b13), (.ref b13)])) (fun _ kt_ => XS.aload X13.here hx rfl (hb hby at_38) rfl rfl kt_) ?_
    obtain ⟨_, _, ⟨T23, L23, k23, n23⟩, -, X23, ⟨Lc23, hQ23, l23, y23, z23⟩, st23⟩ := Jvm.LawKit.callS X13 hx (y := (⟨"java/util/Optional", "empty", "()Ljava/util/Optional;"⟩ : MethodName)) hown (mvT hZ (hw _ (List.mem_of_getElem? (i := 37) rfl))) (mvT hZ (hw _ (List.mem_of_getElem? (i := 38) rfl))) (mvT hZ (hw _ (List.mem_of_getElem? (i := 39) rfl))) (mvT hZ (hw _ (List.mem_of_getElem? (i := 40) rfl))) (by decide) (backOf (W := 5) (rmOE l Z a0 hw [] wC cC zC wO GS  h13 n0 (by omega) oo15 ) hZ (hw _ (List.mem_of_getElem? (i := 40) rfl)) (hw _ (List.mem_of_getElem? (i := 39) rfl)) (by decide) (by decide)) (g := (mkF m 40 #[.val (.int p0), .val (.int p1), .val (.int p2), .val (.int p3), .val (.int p4), .val (.int p5), .val (.ref x_2), .val (.ref x_7), .val (.int sv), .unset, .unset, .unset, .unset, .unset, .unset, .unset, .unset] [(.ref x_7), (.ref x_2), (.int p3), (.ref b13), (.ref b13)])) rfl (by rw [hml]; rfl) (argsL := []) (rest := [(.ref x_7), (.ref x_2), (.int p3), (.ref b13), (.ref b13)]) (lenOf own_pd_13 rfl) rfl (by show 2 * 0 + _ ≤ _; exact Nat.le_of_eq rfl) (hb hby at_40) (fun _ _ => ⟨rfl, e13, (by decide : 7 + 0 ≤ _), (by decide : 22 + 0 ≤ _)⟩)
    dsimp only [Pt.U, Pt.locs, Pt.cells, Pt.slots] at X23 l23 y23 z23 st23 hQ23
    subst l23 y23 z23
    obtain ⟨rfl, N23q, e23⟩ := hQ23
    have N24 := Fr.app N11 N23q
    refine own_by (T' := T23) (g' := (mkF m 43 #[.val (.int p0), .val (.int p1), .val (.int p2), .val (.int p3), .val (.int p4), .val (.int p5), .val (.ref x_2), .val (.ref x_7), .val (.int sv), .unset, .unset, .unset, .unset, .unset, .unset, .unset, .unset] [(.ref wO), (.ref x_7), (.ref x_2), (.int p3), (.ref b13), (.ref b13)])) st23 ?_
    refine own_by (T' := T23) (g' := (mkF m 45 #[.val (.int p0), .val (.int p1), .val (.int p2), .val (.int p3), .val (.int p4), .val (.int p5), .val (.ref x_2), .val (.ref x_7), .val (.int sv), .unset, .unset, .unset, .unset, .unset, .unset, .unset, .unset] [(.int sv), (.ref wO), (.ref x_7), (.ref x_2), (.int p3), (.ref b13), (.ref b13)])) (fun _ kt_ => XS.iload X23.here hx rfl (hb hby at_43) rfl kt_) ?_
    refine own_by (T' := T23) (g' := (mkF m 47 #[.val (.int p0), .val (.int p1), .val (.int p2), .val (.int p3), .val (.int p4), .val (.int p5), .val (.ref x_2), .val (.ref x_7), .val (.int sv), .unset, .unset, .unset, .unset, .unset, .unset, .unset, .unset] [(.int p5), (.int sv), (.ref wO), (.ref x_7), (.ref x_2), (.int p3), (.ref b13), (.ref b13)])) (fun _ kt_ => XS.iload X23.here hx rfl (hb hby at_45) rfl kt_) ?_
    obtain ⟨_, _, ⟨T25, L25, k25, n25⟩, -, X25, ⟨Lc25, hQ25, l25, y25, z25⟩, st25⟩ := X23.specialBack hx (y := (⟨"com/example/vestledger/vestledger/plan/Fund", "<init>", "(ILjava/lang/String;Ljava/lang/String;Ljava/util/Optional;ZI)V"⟩ : MethodName)) rfl hown (mvT hZ (hw _ (List.mem_of_getElem? (i := 42) rfl))) (mvT hZ (hw _ (List.mem_of_getElem? (i := 43) rfl))) (mvT hZ (hw _ (List.mem_of_getElem? (i := 44) rfl))) (by decide) (backOf (W := 1) (rmFI l Z a0 hw [] wC cC zC wO GS b13 p3 x_2 x_7 wO sv p5 h13 n0 (by omega) oo15 A13 (by omega) f17 f18 f19 f20 f21 f22) hZ (hw _ (List.mem_of_getElem? (i := 44) rfl)) (hw _ (List.mem_of_getElem? (i := 36) rfl)) (by decide) (by decide)) (g := (mkF m 47 #[.val (.int p0), .val (.int p1), .val (.int p2), .val (.int p3), .val (.int p4), .val (.int p5), .val (.ref x_2), .val (.ref x_7), .val (.int sv), .unset, .unset, .unset, .unset, .unset, .unset, .unset, .unset] [(.int p5), (.int sv), (.ref wO), (.ref x_7), (.ref x_2), (.int p3), (.ref b13), (.ref b13)])) rfl (by rw [hml]; rfl) (Steps.refl _) (a := b13) (argsL := [(.int p3), (.ref x_2), (.ref x_7), (.ref wO), (.int sv), (.int p5)]) (rest := [(.ref b13)]) (lenOf own_pd_14 rfl) rfl (by show 2 * 0 + _ ≤ _; exact Nat.le_of_eq rfl) (hb hby at_47) (fun _ _ => ⟨rfl, e23, (by decide : 7 + 0 ≤ _), (by decide : 22 + 0 ≤ _)⟩)
    dsimp only [Pt.U, Pt.locs, Pt.cells, Pt.slots] at X25 l25 y25 z25 st25 hQ25
    subst l25 y25 z25
    obtain ⟨rfl, N25q, K25, p25_0, p25_1, p25_2, p25_3, p25_4, p25_5⟩ := hQ25
    have N26 := Fr.app N24 N25q
    have zzK25 : h13.size ≤ T25.heap.size := K25.1
    have oo27 : Old Z n0 T25.heap := oo15.keep K25 (allS (by omega : n0 ≤ b13) all0)
    have kt28 : Keep h0 T25.heap [] := kt16.trans K25 (allS (Or.inr (by omega : h0.size ≤ b13)) all0)
    refine own_by (T' := T25) (g' := (mkF m 50 #[.val (.int p0), .val (.int p1), .val (.int p2), .val (.int p3), .val (.int p4), .val (.int p5), .val (.ref x_2), .val (.ref x_7), .val (.int sv), .unset, .unset, .unset, .unset, .unset, .unset, .unset, .unset] [(.ref b13)])) (fun _ kt_ => st25.trans kt_) ?_
    refine own_by (T' := T25) (g' := (mkF m 52 #[.val (.int p0), .val (.int p1), .val (.int p2), .val (.int p3), .val (.int p4), .val (.int p5), .val (.ref x_2), .val (.ref x_7), .val (.int sv), .val (.ref b13), .unset, .unset, .unset, .unset, .unset, .unset, .unset] [])) (fun _ kt_ => XS.astore X25.here hx rfl (hb hby at_50) rfl rfl (l' := #[.val (.int p0), .val (.int p1), .val (.int p2), .val (.int p3), .val (.int p4), .val (.int p5), .val (.ref x_2), .val (.ref x_7), .val (.int sv), .val (.ref b13), .unset, .unset, .unset, .unset, .unset, .unset, .unset]) rfl kt_) ?_
    obtain ⟨T29, h29, X29, e29, E29, A29, D29, -, st29⟩ := newO X25 hx hZ hown (hw _ (List.mem_of_getElem? (i := 34) rfl)) (hw _ (List.mem_of_getElem? (i := 35) rfl)) (hw _ (List.mem_of_getElem? (i := 36) rfl)) rfl (g := (mkF m 52 #[.val (.int p0), .val (.int p1), .val (.int p2), .val (.int p3), .val (.int p4), .val (.int p5), .val (.ref x_2), .val (.ref x_7), .val (.int sv), .val (.ref b13), .unset, .unset, .unset, .unset, .unset, .unset, .unset] [])) rfl (hb hby at_52) (by decide) (by decide)
    obtain ⟨b29, g29⟩ : ∃ z, z = T25.heap.size := ⟨_, rfl⟩
    rw [← g29] at A29 D29 st29
    have K30 : Keep T25.heap h29 [] := own_kext E29
    have zzK30 : T25.heap.size ≤ h29.size := K30.1
    have oo31 : Old Z n0 h29 := oo27.keep K30 all0
    have kt32 : Keep h0 h29 [] := kt28.trans K30 all0
    have lab29 : b29 < h29.size := A29.lt
    have f33 : Fld Z h29 b29 "com/example/vestledger/vestledger/plan/Fund" "number" "I" (.int (0 : Int32)) := D29 (Or.inr (hw _ (List.mem_of_getElem? (i := 52) rfl))) (ty := .int) (by decide)
    have f34 : Fld Z h29 b29 "com/example/vestledger/vestledger/plan/Fund" "id" "Ljava/lang/String;" .null := D29 (Or.inr (hw _ (List.mem_of_getElem? (i := 54) rfl))) (ty := (.object "java/lang/String")) (by decide)
    have f35 : Fld Z h29 b29 "com/example/vestledger/vestledger/plan/Fund" "name" "Ljava/lang/String;" .null := D29 (Or.inr (hw _ (List.mem_of_getElem? (i := 56) rfl))) (ty := (.object "java/lang/String")) (by decide)
    have f36 : Fld Z h29 b29 "com/example/vestledger/vestledger/plan/Fund" "fixedPrice" "Ljava/util/Optional;" .null := D29 (Or.inr (hw _ (List.mem_of_getElem? (i := 58) rfl))) (ty := (.object "java/util/Optional")) (by decide)
    have f37 : Fld Z h29 b29 "com/example/vestledger/vestledger/plan/Fund" "companyStock" "Z" (.int (0 : Int32)) := D29 (Or.inr (hw _ (List.mem_of_getElem? (i := 60) rfl))) (ty := .boolean) (by decide)
    have f38 : Fld Z h29 b29 "com/example/vestledger/vestledger/plan/Fund" "line" "I" (.int (0 : Int32)) := D29 (Or.inr (hw _ (List.mem_of_getElem? (i := 62) rfl))) (ty := .int) (by decide)
    refine own_by (T' := T29) (g' := (mkF m 55 #[.val (.int p0), .val (.int p1), .val (.int p2), .val (.int p3), .val (.int p4), .val (.int p5), .val (.ref x_2), .val (.ref x_7), .val (.int sv), .val (.ref b13), .unset, .unset, .unset, .unset, .unset, .unset, .unset] [(.ref b29)])) st29 ?_
    refine own_by (T' := T29) (g' := (mkF m 56 #[.val (.int p0), .val (.int p1), .val (.int p2), .val (.int p3), .val (.int p4), .val (.int p5), .val (.ref x_2), .val (.ref x_7), .val (.int sv), .val (.ref b13), .unset, .unset, .unset, .unset, .unset, .unset, .unset] [(.ref b29), (.ref b29)])) (fun _ kt_ => XS.dup X29.here hx rfl (hb hby at_55) rfl rfl kt_) ?_
    refine own_by (T' := T29) (g' := (mkF m 57 #[.val (.int p0), .val (.int p1), .val (.int p2), .val (.int p3), .val (.int p4), .val (.int p5), .val (.ref x_2), .val (.ref x_7), .val (.int sv), .val (.ref b13), .unset, .unset, .unset, .unset, .unset, .unset, .unset] [(.int p3), (.ref b29), (.ref b29)])) (fun _ kt_ => XS.iloadN X29.here hx rfl (hb hby at_56) rfl kt_) ?_
    refine own_by (T' := T29) (g' := (mkF m 58 #[.val (.int p0), .val (.int p1), .val (.int p2), .val (.int p3), .val (.int p4), .val (.int p5), .val (.ref x_2), .val (.ref x_7), .val (.int sv), .val (.ref b13), .unset, .unset, .unset, .unset, .unset, .unset, .unset] [(.int (1 : Int32)), (.int p3), (.ref b29), (.ref b29)])) (fun _ kt_ => XS.iconst X29.here hx rfl (hb hby at_57) kt_) ?_
    refine own_by (T' := T29) (g' := (mkF m 59 #[.val (.int p0), .val (.int p1), .val (.int p2), .val (.int p3), .val (.int p4), .val (.int p5), .val (.ref x_2), .val (.ref x_7), .val (.int sv), .val (.ref b13), .unset, .unset, .unset, .unset, .unset, .unset, .unset] [(.int (p3 ^^^ (1 : Int32))), (.ref b29), (.ref b29)])) (fun _ kt_ => XS.ixor X29.here hx rfl (hb hby at_58) rfl kt_) ?_
    refine own_by (T' := T29) (g' := (mkF m 61 #[.val (.int p0), .val (.int p1), .val (.int p2), .val (.int p3), .val (.int p4), .val (.int p5), .val (.ref x_2), .val (.ref x_7), .val (.int sv), .val (.ref b13), .unset, .unset, .unset, .unset, .unset, .unset, .unset] [(.ref x_2), (.int (p3 ^^^ (1 : Int32))), (.ref b29), (.ref b29)])) (fun _ kt_ => XS.aload X29.here hx rfl (hb hby at_59) rfl rfl kt_) ?_
    refine own_by (T' := T29) (g' := (mkF m 63 #[.val (.int p0), .val (.int p1), .val (.int p2), .val (.int p3), .val (.int p4), .val (.int p5), .val (.ref x_2), .val (.ref x_7), .val (.int sv), .val (.ref b13), .unset, .unset, .unset, .unset, .unset, .unset, .unset] [(.ref x_7), (.ref x_2), (.int (p3 ^^^ (1 : Int32))), (.ref b29), (.ref b29)])) (fun _ kt_ => XS.aload X29.here hx rfl (hb hby at_61) rfl rfl kt_) ?_
    obtain ⟨_, _, ⟨T39, L39, k39, n39⟩, -, X39, ⟨Lc39, hQ39, l39, y39, z39⟩, st39⟩ := Jvm.LawKit.callS X29 hx (y := (⟨"java/util/Optional", "empty", "()Ljava/util/Optional;"⟩ : MethodName)) hown (mvT hZ (hw _ (List.mem_of_getElem? (i := 37) rfl))) (mvT hZ (hw _ (List.mem_of_getElem? (i := 38) rfl))) (mvT hZ (hw _ (List.mem_of_getElem? (i := 39) rfl))) (mvT hZ (hw _ (List.mem_of_getElem? (i := 40) rfl))) (by decide) (backOf (W := 5) (rmOE l Z a0 hw [] wC cC zC wO GS  h29 n0 (by omega) oo31 ) hZ (hw _ (List.mem_of_getElem? (i := 40) rfl)) (hw _ (List.mem_of_getElem? (i := 39) rfl)) (by decide) (by decide)) (g := (mkF m 63 #[.val (.int p0), .val (.int p1), .val (.int p2), .val (.int p3), .val (.int p4), .val (.int p5), .val (.ref x_2), .val (.ref x_7), .val (.int sv), .val (.ref b13), .unset, .unset, .unset, .unset, .unset, .unset, .unset] [(.ref x_7), (.ref x_2), (.int (p3 ^^^ (1 : Int32))), (.ref b29), (.ref b29)])) rfl (by rw [hml]; rfl) (argsL := []) (rest := [(.ref x_7), (.ref x_2), (.int (p3 ^^^ (1 : Int32))), (.ref b29), (.ref b29)]) (lenOf own_pd_13 rfl) rfl (by show 2 * 0 + _ ≤ _; exact Nat.le_of_eq rfl) (hb hby at_63) (fun _ _ => ⟨rfl, e29, (by decide : 8 + 0 ≤ _), (by decide : 28 + 0 ≤ _)⟩)
    dsimp only [Pt.U, Pt.locs, Pt.cells, Pt.slots] at X39 l39 y39 z39 st39 hQ39
    subst l39 y39 z39
    obtain ⟨rfl, N39q, e39⟩ := hQ39
    have N40 := Fr.app N26 N39q
    refine own_by (T' := T39) (g' := (mkF m 66 #[.val (.int p0), .val (.int p1), .val (.int p2), .val (.int p3), .val (.int p4), .val (.int p5), .val (.ref x_2), .val (.ref x_7), .val (.int sv), .val (.ref b13), .unset, .unset, .unset, .unset, .unset, .unset, .unset] [(.ref wO), (.ref x_7), (.ref x_2), (.int (p3 ^^^ (1 : Int32))), (.ref b29), (.ref b29)])) st39 ?_
    refine own_by (T' := T39) (g' := (mkF m 68 #[.val (.int p0), .val (.int p1), .val (.int p2), .val (.int p3), .val (.int p4), .val (.int p5), .val (.ref x_2), .val (.ref x_7), .val (.int sv), .val (.ref b13), .unset, .unset, .unset, .unset, .unset, .unset, .unset] [(.int sv), (.ref wO), (.ref x_7), (.ref x_2), (.int (p3 ^^^ (1 : Int32))), (.ref b29), (.ref b29)])) (fun _ kt_ => XS.iload X39.here hx rfl (hb hby at_66) rfl kt_) ?_
    refine own_by (T' := T39) (g' := (mkF m 70 #[.val (.int p0), .val (.int p1), .val (.int p2), .val (.int p3), .val (.int p4), .val (.int p5), .val (.ref x_2), .val (.ref x_7), .val (.int sv), .val (.ref b13), .unset, .unset, .unset, .unset, .unset, .unset, .unset] [(.int p5), (.int sv), (.ref wO), (.ref x_7), (.ref x_2), (.int (p3 ^^^ (1 : Int32))), (.ref b29), (.ref b29)])) (fun _ kt_ => XS.iload X39.here hx rfl (hb hby at_68) rfl kt_) ?_
    obtain ⟨_, _, ⟨T41, L41, k41, n41⟩, -, X41, ⟨Lc41, hQ41, l41, y41, z41⟩, st41⟩ := X39.specialBack hx (y := (⟨"com/example/vestledger/vestledger/plan/Fund", "<init>", "(ILjava/lang/String;Ljava/lang/String;Ljava/util/Optional;ZI)V"⟩ : MethodName)) rfl hown (mvT hZ (hw _ (List.mem_of_getElem? (i := 42) rfl))) (mvT hZ (hw _ (List.mem_of_getElem? (i := 43) rfl))) (mvT hZ (hw _ (List.mem_of_getElem? (i := 44) rfl))) (by decide) (backOf (W := 1) (rmFI l Z a0 hw [] wC cC zC wO GS b29 (p3 ^^^ (1 : Int32)) x_2 x_7 wO sv p5 h29 n0 (by omega) oo31 A29 (by omega) f33 f34 f35 f36 f37 f38) hZ (hw _ (List.mem_of_getElem? (i := 44) rfl)) (hw _ (List.mem_of_getElem? (i := 36) rfl)) (by decide) (by decide)) (g := (mkF m 70 #[.val (.int p0), .val (.int p1), .val (.int p2), .val (.int p3), .val (.int p4), .val (.int p5), .val (.ref x_2), .val (.ref x_7), .val (.int sv), .val (.ref b13), .unset, .unset, .unset, .unset, .unset, .unset, .unset] [(.int p5), (.int sv), (.ref wO), (.ref x_7), (.ref x_2), (.int (p3 ^^^ (1 : Int32))), (.ref b29), (.ref b29)])) rfl (by rw [hml]; rfl) (Steps.refl _) (a := b29) (argsL := [(.int (p3 ^^^ (1 : Int32))), (.ref x_2), (.ref x_7), (.ref wO), (.int sv), (.int p5)]) (rest := [(.ref b29)]) (lenOf own_pd_14 rfl) rfl (by show 2 * 0 + _ ≤ _; exact Nat.le_of_eq rfl) (hb hby at_70) (fun _ _ => ⟨rfl, e39, (by decide : 8 + 0 ≤ _), (by decide : 28 + 0 ≤ _)⟩)
    dsimp only [Pt.U, Pt.locs, Pt.cells, Pt.slots] at X41 l41 y41 z41 st41 hQ41
    subst l41 y41 z41
    obtain ⟨rfl, N41q, K41, p41_0, p41_1, p41_2, p41_3, p41_4, p41_5⟩ := hQ41
    have N42 := Fr.app N40 N41q
    have zzK41 : h29.size ≤ T41.heap.size := K41.1
    have oo43 : Old Z n0 T41.heap := oo31.keep K41 (allS (by omega : n0 ≤ b29) all0)
    have kt44 : Keep h0 T41.heap [] := kt32.trans K41 (allS (Or.inr (by omega : h0.size ≤ b29)) all0)
    refine own_by (T' := T41) (g' := (mkF m 73 #[.val (.int p0), .val (.int p1), .val (.int p2), .val (.int p3), .val (.int p4), .val (.int p5), .val (.ref x_2), .val (.ref x_7), .val (.int sv), .val (.ref b13), .unset, .unset, .unset, .unset, .unset, .unset, .unset] [(.ref b29)])) (fun _ kt_ => st41.trans kt_) ?_
    refine own_by (T' := T41) (g' := (mkF m 75 #[.val (.int p0), .val (.int p1), .val (.int p2), .val (.int p3), .val (.int p4), .val (.int p5), .val (.ref x_2), .val (.ref x_7), .val (.int sv), .val (.ref b13), .val (.ref b29), .unset, .unset, .unset, .unset, .unset, .unset] [])) (fun _ kt_ => XS.astore X41.here hx rfl (hb hby at_73) rfl rfl (l' := #[.val (.int p0), .val (.int p1), .val (.int p2), .val (.int p3), .val (.int p4), .val (.int p5), .val (.ref x_2), .val (.ref x_7), .val (.int sv), .val (.ref b13), .val (.ref b29), .unset, .unset, .unset, .unset, .unset, .unset]) rfl kt_) ?_
    have J45 : ∀ (T45 : State) (lo45 : List Loc) (hp45 : Heap) (X45 : Stand p l e room_1 s m #[(.int p0), (.int p1), (.int p2), (.int p3), (.int p4), (.int p5)] below meth c T45 lo45 10 30) (e45 : T45.heap = hp45) (K45 : Keep T41.heap hp45 []) (N45 : Fr n0 lo45) (oy : Addr) (fj45_0 : Exa Z hp45 oy "java/util/Optional"), True → OGoal p e below (fun oo_ UV_ => ∃ vv_ LL_, oo_ = .returned vv_ ∧ Q_rm0 Z wC cC zC wO p0 p1 p2 p3 p4 p5 h0 n0 vv_ UV_.heap LL_ ∧ FrameEnd s oo_ UV_ LL_ 16 41) T45 (mkF m 94 #[.val (.int p0), .val (.int p1), .val (.int p2), .val (.int p3), .val (.int p4), .val (.int p5), .val (.ref x_2), .val (.ref x_7), .val (.int sv), .val (.ref b13), .val (.ref b29), .unset, .unset, .unset, .unset, .unset, .unset] [(.ref oy)]) := by
      intro T45 lo45 hp45 X45 e45 K45 N45 oy fj45_0 hj46
      have zzK45 : T41.heap.size ≤ hp45.size := K45.1
      have oo47 : Old Z n0 hp45 := oo43.keep K45 all0
      have kt48 : Keep h0 hp45 [] := kt44.trans K45 all0
      refine own_by (T' := T45) (g' := (mkF m 96 #[.val (.int p0), .val (.int p1), .val (.int p2), .val (.int p3), .val (.int p4), .val (.int p5), .val (.ref x_2), .val (.ref x_7), .val (.int sv), .val (.ref b13), .val (.ref b29), .val (.ref oy), .unset, .unset, .unset, .unset, .unset] [])) (fun _ kt_ => XS.astore X45.here hx rfl (hb hby at_94) rfl rfl (l' := #[.val (.int p0), .val (.int p1), .val (.int p2), .val (.int p3), .val (.int p4), .val (.int p5), .val (.ref x_2), .val (.ref x_7), .val (.int sv), .val (.ref b13), .val (.ref b29), .val (.ref oy), .unset, .unset, .unset, .unset, .unset]) rfl kt_) ?_
      have J49 : ∀ (T49 : State) (lo49 : List Loc) (hp49 : Heap) (X49 : Stand p l e room_1 s m #[(.int p0), (.int p1), (.int p2), (.int p3), (.int p4), (.int p5)] below meth c T49 lo49 12 33) (e49 : T49.heap = hp49) (K49 : Keep hp45 hp49 []) (N49 : Fr n0 lo49) (op : Addr) (fj49_0 : Exa Z hp49 op "java/util/Optional"), True → OGoal p e below (fun oo_ UV_ => ∃ vv_ LL_, oo_ = .returned vv_ ∧ Q_rm0 Z wC cC zC wO p0 p1 p2 p3 p4 p5 h0 n0 vv_ UV_.heap LL_ ∧ FrameEnd s oo_ UV_ LL_ 16 41) T49 (mkF m 120 #[.val (.int p0), .val (.int p1), .val (.int p2), .val (.int p3), .val (.int p4), .val (.int p5), .val (.ref x_2), .val (.ref x_7), .val (.int sv), .val (.ref b13), .val (.ref b29), .val (.ref oy), .unset, .unset, .unset, .unset, .unset] [(.ref op)]) := by
        intro T49 lo49 hp49 X49 e49 K49 N49 op fj49_0 hj50
        have zzK49 : hp45.size ≤ hp49.size := K49.1
        have oo51 : Old Z n0 hp49 := oo47.keep K49 all0
        have kt52 : Keep h0 hp49 [] := kt48.trans K49 all0
        refine own_by (T' := T49) (g' := (mkF m 122 #[.val (.int p0), .val (.int p1), .val (.int p2), .val (.int p3), .val (.int p4), .val (.int p5), .val (.ref x_2), .val (.ref x_7), .val (.int sv), .val (.ref b13), .val (.ref b29), .val (.ref oy), .val (.ref op), .unset, .unset, .unset, .unset] [])) (fun _ kt_ => XS.astore X49.here hx rfl (hb hby at_120) rfl rfl (l' := #[.val (.int p0), .val (.int p1), .val (.int p2), .val (.int p3), .val (.int p4), .val (.int p5), .val (.ref x_2), .val (.ref x_7), .val (.int sv), .val (.ref b13), .val (.ref b29), .val (.ref oy), .val (.ref op), .unset, .unset, .unset, .unset]) rfl kt_) ?_
        have J53 : ∀ (T53 : State) (lo53 : List Loc) (hp53 : Heap) (X53 : Stand p l e room_1 s m #[(.int p0), (.int p1), (.int p2), (.int p3), (.int p4), (.int p5)] below meth c T53 lo53 13 34) (e53 : T53.heap = hp53) (K53 : Keep hp49 hp53 []) (N53 : Fr n0 lo53) (ob : Addr) (fj53_0 : Exa Z hp53 ob "java/util/Optional"), True → OGoal p e below (fun oo_ UV_ => ∃ vv_ LL_, oo_ = .returned vv_ ∧ Q_rm0 Z wC cC zC wO p0 p1 p2 p3 p4 p5 h0 n0 vv_ UV_.heap LL_ ∧ FrameEnd s oo_ UV_ LL_ 16 41) T53 (mkF m 139 #[.val (.int p0), .val (.int p1), .val (.int p2), .val (.int p3), .val (.int p4), .val (.int p5), .val (.ref x_2), .val (.ref x_7), .val (.int sv), .val (.ref b13), .val (.ref b29), .val (.ref oy), .val (.ref op), .unset, .unset, .unset, .unset] [(.ref ob)]) := by
          intro T53 lo53 hp53 X53 e53 K53 N53 ob fj53_0 hj54
          have zzK53 : hp49.size ≤ hp53.size := K53.1
          have oo55 : Old Z n0 hp53 := oo51.keep K53 all0
          have kt56 : Keep h0 hp53 [] := kt52.trans K53 all0
          refine own_by (T' := T53) (g' := (mkF m 141 #[.val (.int p0), .val (.int p1), .val (.int p2), .val (.int p3), .val (.int p4), .val (.int p5), .val (.ref x_2), .val (.ref x_7), .val (.int sv), .val (.ref b13), .val (.ref b29), .val (.ref oy), .val (.ref op), .val (.ref ob), .unset, .unset, .unset] [])) (fun _ kt_ => XS.astore X53.here hx rfl (hb hby at_139) rfl rfl (l' := #[.val (.int p0), .val (.int p1), .val (.int p2), .val (.int p3), .val (.int p4), .val (.int p5), .val (.ref x_2), .val (.ref x_7), .val (.int sv), .val (.ref b13), .val (.ref b29), .val (.ref oy), .val (.ref op), .val (.ref ob), .unset, .unset, .unset]) rfl kt_) ?_
          obtain ⟨T57, h57, X57, e57, E57, A57, D57, -, st57⟩ := newO X53 hx hZ hown (hw _ (List.mem_of_getElem? (i := 97) rfl)) (hw _ (List.mem_of_getElem? (i := 98) rfl)) (hw _ (List.mem_of_getElem? (i := 99) rfl)) e53 (g := (mkF m 141 #[.val (.int p0), .val (.int p1), .val (.int p2), .val (.int p3), .val (.int p4), .val (.int p5), .val (.ref x_2), .val (.ref x_7), .val (.int sv), .val (.ref b13), .val (.ref b29), .val (.ref oy), .val (.ref op), .val (.ref ob), .unset, .unset, .unset] [])) rfl (hb hby at_141) (by decide) (by decide)
          obtain ⟨b57, g57⟩ : ∃ z, z = hp53.size := ⟨_, rfl⟩
          rw [← g57] at A57 D57 st57
          have K58 : Keep hp53 h57 [] := own_kext E57
          have zzK58 : hp53.size ≤ h57.size := K58.1
          have oo59 : Old Z n0 h57 := oo55.keep K58 all0
          have kt60 : Keep h0 h57 [] := kt56.trans K58 all0
          have lab57 : b57 < h57.size := A57.lt
          have f61 : Fld Z h57 b57 "com/example/vestledger/vestledger/plan/Elections$Part" "planYear" "Ljava/util/Optional;" .null := D57 (Or.inr (hw _ (List.mem_of_getElem? (i := 105) rfl))) (ty := (.object "java/util/Optional")) (by decide)
          have f62 : Fld Z h57 b57 "com/example/vestledger/vestledger/plan/Elections$Part" "payment" "Ljava/util/Optional;" .null := D57 (Or.inr (hw _ (List.mem_of_getElem? (i := 107) rfl))) (ty := (.object "java/util/Optional")) (by decide)
          have f63 : Fld Z h57 b57 "com/example/vestledger/vestledger/plan/Elections$Part" "companyStock" "Ljava/util/Optional;" .null := D57 (Or.inr (hw _ (List.mem_of_getElem? (i := 109) rfl))) (ty := (.object "java/util/Optional")) (by decide)
          refine own_by (T' := T57) (g' := (mkF m 144 #[.val (.int p0), .val (.int p1), .val (.int p2), .val (.int p3), .val (.int p4), .val (.int p5), .val (.ref x_2), .val (.ref x_7), .val (.int sv), .val (.ref b13), .val (.ref b29), .val (.ref oy), .val (.ref op), .val (.ref ob), .unset, .unset, .unset] [(.ref b57)])) st57 ?_
          refine own_by (T' := T57) (g' := (mkF m 145 #[.val (.int p0), .val (.int p1), .val (.int p2), .val (.int p3), .val (.int p4), .val (.int p5), .val (.ref x_2), .val (.ref x_7), .val (.int sv), .val (.ref b13), .val (.ref b29), .val (.ref oy), .val (.ref op), .val (.ref ob), .unset, .unset, .unset] [(.ref b57), (.ref b57)])) (fun _ kt_ => XS.dup X57.here hx rfl (hb hby at_144) rfl rfl kt_) ?_
          refine own_by (T' := T57) (g' := (mkF m 147 #[.val (.int p0), .val (.int p1), .val (.int p2), .val (.int p3), .val (.int p4), .val (.int p5), .val (.ref x_2), .val (.ref x_7), .val (.int sv), .val (.ref b13), .val (.ref b29), .val (.ref oy), .val (.ref op), .val (.ref ob), .unset, .unset, .unset] [(.ref oy), (.ref b57), (.ref b57)])) (fun _ kt_ => XS.aload X57.here hx rfl (hb hby at_145) rfl rfl kt_) ?_
          refine own_by (T' := T57) (g' := (mkF m 149 #[.val (.int p0), .val (.int p1), .val (.int p2), .val (.int p3), .val (.int p4), .val (.int p5), .val (.ref x_2), .val (.ref x_7), .val (.int sv), .val (.ref b13), .val (.ref b29), .val (.ref oy), .val (.ref op), .val (.ref ob), .unset, .unset, .unset] [(.ref op), (.ref oy), (.ref b57), (.ref b57)])) (fun _ kt_ => XS.aload X57.here hx rfl (hb hby at_147) rfl rfl kt_) ?_
          refine own_by (T' := T57) (g' := (mkF m 151 #[.val (.int p0), .val (.int p1), .val (.int p2), .val (.int p3), .val (.int p4), .val (.int p5), .val (.ref x_2), .val (.ref x_7), .val (.int sv), .val (.ref b13), .val (.ref b29), .val (.ref oy), .val (.ref op), .val (.ref ob), .unset, .unset, .unset] [(.ref ob), (.ref op), (.ref oy), (.ref b57), (.ref b57)])) (fun _ kt_ => XS.aload X57.here hx rfl (hb hby at_149) rfl rfl kt_) ?_
          obtain ⟨_, _, ⟨T64, L64, k64, n64⟩, -, X64, ⟨Lc64, hQ64, l64, y64, z64⟩, st64⟩ := X57.specialBack hx (y := (⟨"com/example/vestledger/vestledger/plan/Elections$Part", "<init>", "(Ljava/util/Optional;Ljava/util/Optional;Ljava/util/Optional;)V"⟩ : MethodName)) rfl hown (mvT hZ (hw _ (List.mem_of_getElem? (i := 100) rfl))) (mvT hZ (hw _ (List.mem_of_getElem? (i := 101) rfl))) (mvT hZ (hw _ (List.mem_of_getElem? (i := 102) rfl))) (by decide) (backOf (W := 1) (rmPaI l Z a0 hw [] wC cC zC wO GS b57 oy op ob h57 n0 (by omega) oo59 A57 (by omega) f61 f62 f63) hZ (hw _ (List.mem_of_getElem? (i := 102) rfl)) (hw _ (List.mem_of_getElem? (i := 99) rfl)) (by decide) (by decide)) (g := (mkF m 151 #[.val (.int p0), .val (.int p1), .val (.int p2), .val (.int p3), .val (.int p4), .val (.int p5), .val (.ref x_2), .val (.ref x_7), .val (.int sv), .val (.ref b13), .val (.ref b29), .val (.ref oy), .val (.ref op), .val (.ref ob), .unset, .unset, .unset] [(.ref ob), (.ref op), (.ref oy), (.ref b57), (.ref b57)])) rfl (by rw [hml]; rfl) (Steps.refl _) (a := b57) (argsL := [(.ref oy), (.ref op), (.ref ob)]) (rest := [(.ref b57)]) (lenOf own_pd_10 rfl) rfl (by show 2 * 0 + _ ≤ _; exact Nat.le_of_eq rfl) (hb hby at_151) (fun _ _ => ⟨rfl, e57, (by decide : 14 + 0 ≤ _), (by decide : 37 + 0 ≤ _)⟩)
          dsimp only [Pt.U, Pt.locs, Pt.cells, Pt.slots] at X64 l64 y64 z64 st64 hQ64
          subst l64 y64 z64
          obtain ⟨rfl, N64q, K64, p64_0, p64_1, p64_2⟩ := hQ64
          have N65 := Fr.app N53 N64q
          have zzK64 : h57.size ≤ T64.heap.size := K64.1
          have oo66 : Old Z n0 T64.heap := oo59.keep K64 (allS (by omega : n0 ≤ b57) all0)
          have kt67 : Keep h0 T64.heap [] := kt60.trans K64 (allS (Or.inr (by omega : h0.size ≤ b57)) all0)
          refine own_by (T' := T64) (g' := (mkF m 154 #[.val (.int p0), .val (.int p1), .val (.int p2), .val (.int p3), .val (.int p4), .val (.int p5), .val (.ref x_2), .val (.ref x_7), .val (.int sv), .val (.ref b13), .val (.ref b29), .val (.ref oy), .val (.ref op), .val (.ref ob), .unset, .unset, .unset] [(.ref b57)])) (fun _ kt_ => st64.trans kt_) ?_
          refine own_by (T' := T64) (g' := (mkF m 156 #[.val (.int p0), .val (.int p1), .val (.int p2), .val (.int p3), .val (.int p4), .val (.int p5), .val (.ref x_2), .val (.ref x_7), .val (.int sv), .val (.ref b13), .val (.ref b29), .val (.ref oy), .val (.ref op), .val (.ref ob), .val (.ref b57), .unset, .unset] [])) (fun _ kt_ => XS.astore X64.here hx rfl (hb hby at_154) rfl rfl (l' := #[.val (.int p0), .val (.int p1), .val (.int p2), .val (.int p3), .val (.int p4), .val (.int p5), .val (.ref x_2), .val (.ref x_7), .val (.int sv), .val (.ref b13), .val (.ref b29), .val (.ref oy), .val (.ref op), .val (.ref ob), .val (.ref b57), .unset, .unset]) rfl kt_) ?_
          refine own_by (T' := T64) (g' := (mkF m 158 #[.val (.int p0), .val (.int p1), .val (.int p2), .val (.int p3), .val (.int p4), .val (.int p5), .val (.ref x_2), .val (.ref x_7), .val (.int sv), .val (.ref b13), .val (.ref b29), .val (.ref oy), .val (.ref op), .val (.ref ob), .val (.ref b57), .unset, .unset] [(.ref b57)])) (fun _ kt_ => XS.aload X64.here hx rfl (hb hby at_156) rfl rfl kt_) ?_
          refine own_by (T' := T64) (g' := (mkF m 160 #[.val (.int p0), .val (.int p1), .val (.int p2), .val (.int p3), .val (.int p4), .val (.int p5), .val (.ref x_2), .val (.ref x_7), .val (.int sv), .val (.ref b13), .val (.ref b29), .val (.ref oy), .val (.ref op), .val (.ref ob), .val (.ref b57), .unset, .unset] [(.ref b13), (.ref b57)])) (fun _ kt_ => XS.aload X64.here hx rfl (hb hby at_158) rfl rfl kt_) ?_
          have f69 : Exa Z T64.heap b57 "com/example/vestledger/vestledger/plan/Elections$Part" := (A57.keep K64)
          obtain ⟨cq68, kq68, q68a, q68b, q68c⟩ := isOf hZ rfl f69
          obtain ⟨_, _, ⟨T68, L68, k68, n68⟩, -, X68, ⟨Lc68, hQ68, l68, y68, z68⟩, st68⟩ := X64.virtualBack hx (y := (⟨"com/example/vestledger/vestledger/plan/Elections$Part", "ofCompanyStock", "(Lcom/example/vestledger/vestledger/plan/Fund;)Lcom/example/vestledger/vestledger/plan/Elections$Part;"⟩ : MethodName)) (z := (⟨"com/example/vestledger/vestledger/plan/Elections$Part", "ofCompanyStock", "(Lcom/example/vestledger/vestledger/plan/Fund;)Lcom/example/vestledger/vestledger/plan/Elections$Part;"⟩ : MethodName)) hown (mvT hZ (hw _ (List.mem_of_getElem? (i := 110) rfl))) (mvT hZ (hw _ (List.mem_of_getElem? (i := 111) rfl))) (notFace_of_selects (args := #[]) (mvT hZ (hw _ (List.mem_of_getElem? (i := 113) rfl)))) (mvT hZ (hw _ (List.mem_of_getElem? (i := 113) rfl))) (mvT hZ (hw _ (List.mem_of_getElem? (i := 112) rfl))) (by decide) (backOf (W := 0) (rmOCS l Z a0 hw [] wC cC zC wO GS b57 b13 oy op T64.heap n0 (by omega) oo66 p64_0 p64_1) hZ (hw _ (List.mem_of_getElem? (i := 114) rfl)) (hw _ (List.mem_of_getElem? (i := 99) rfl)) (by decide) (by decide)) q68a q68c (g := (mkF m 160 #[.val (.int p0), .val (.int p1), .val (.int p2), .val (.int p3), .val (.int p4), .val (.int p5), .val (.ref x_2), .val (.ref x_7), .val (.int sv), .val (.ref b13), .val (.ref b29), .val (.ref oy), .val (.ref op), .val (.ref ob), .val (.ref b57), .unset, .unset] [(.ref b13), (.ref b57)])) rfl (by rw [hml]; rfl) (Steps.refl _) (argsL := [(.ref b13)]) (rest := []) (lenOf own_pd_15 rfl) rfl (by show 2 * 0 + _ ≤ _; exact Nat.le_of_eq rfl) (hb hby at_160) (fun _ _ => ⟨rfl, rfl, (by decide : 14 + 2 ≤ _), (by decide : 37 + 4 ≤ _)⟩)
          dsimp only [Pt.U, Pt.locs, Pt.cells, Pt.slots] at X68 l68 y68 z68 st68 hQ68
          subst l68 y68 z68
          obtain ⟨b_70, z_71, rfl, N68q, K68, p68_0, p68_1, p68_2, p68_3, p68_4, p68_5, p68_6, p68_7⟩ := hQ68
          have N72 := Fr.app N65 N68q
          have gb_70 : T64.heap.size ≤ b_70 := p68_0
          have gz_71 : T64.heap.size ≤ z_71 := p68_1
          have zzK68 : T64.heap.size ≤ T68.heap.size := K68.1
          have oo73 : Old Z n0 T68.heap := oo66.keep K68 all0
          have kt74 : Keep h0 T68.heap [] := kt67.trans K68 all0
          refine own_by (T' := T68) (g' := (mkF m 163 #[.val (.int p0), .val (.int p1), .val (.int p2), .val (.int p3), .val (.int p4), .val (.int p5), .val (.ref x_2), .val (.ref x_7), .val (.int sv), .val (.ref b13), .val (.ref b29), .val (.ref oy), .val (.ref op), .val (.ref ob), .val (.ref b57), .unset, .unset] [(.ref b_70)])) (fun _ kt_ => st68.trans kt_) ?_
          refine own_by (T' := T68) (g' := (mkF m 165 #[.val (.int p0), .val (.int p1), .val (.int p2), .val (.int p3), .val (.int p4), .val (.int p5), .val (.ref x_2), .val (.ref x_7), .val (.int sv), .val (.ref b13), .val (.ref b29), .val (.ref oy), .val (.ref op), .val (.ref ob), .val (.ref b57), .val (.ref b_70), .unset] [])) (fun _ kt_ => XS.astore X68.here hx rfl (hb hby at_163) rfl rfl (l' := #[.val (.int p0), .val (.int p1), .val (.int p2), .val (.int p3), .val (.int p4), .val (.int p5), .val (.ref x_2), .val (.ref x_7), .val (.int sv), .val (.ref b13), .val (.ref b29), .val (.ref oy), .val (.ref op), .val (.ref ob), .val (.ref b57), .val (.ref b_70), .unset]) rfl kt_) ?_
          refine own_by (T' := T68) (g' := (mkF m 167 #[.val (.int p0), .val (.int p1), .val (.int p2), .val (.int p3), .val (.int p4), .val (.int p5), .val (.ref x_2), .val (.ref x_7), .val (.int sv), .val (.ref b13), .val (.ref b29), .val (.ref oy), .val (.ref op), .val (.ref ob), .val (.ref b57), .val (.ref b_70), .unset] [(.ref b_70)])) (fun _ kt_ => XS.aload X68.here hx rfl (hb hby at_165) rfl rfl kt_) ?_
          refine own_by (T' := T68) (g' := (mkF m 172 #[.val (.int p0), .val (.int p1), .val (.int p2), .val (.int p3), .val (.int p4), .val (.int p5), .val (.ref x_2), .val (.ref x_7), .val (.int sv), .val (.ref b13), .val (.ref b29), .val (.ref oy), .val (.ref op), .val (.ref ob), .val (.ref b57), .val (.ref b_70), .unset] [])) (fun _ kt_ => XS.ifnonnullYes X68.here hx rfl (pc0 := 167) (pc' := 172) rfl (hb hby at_167) rfl (by decide) (by decide) kt_) ?_
          refine own_by (T' := T68) (g' := (mkF m 174 #[.val (.int p0), .val (.int p1), .val (.int p2), .val (.int p3), .val (.int p4), .val (.int p5), .val (.ref x_2), .val (.ref x_7), .val (.int sv), .val (.ref b13), .val (.ref b29), .val (.ref oy), .val (.ref op), .val (.ref ob), .val (.ref b57), .val (.ref b_70), .unset] [(.ref b_70)])) (fun _ kt_ => XS.aload X68.here hx rfl (hb hby at_172) rfl rfl kt_) ?_
          obtain ⟨cq75, kq75, q75a, q75b, q75c⟩ := isOf hZ rfl p68_2
          obtain ⟨_, _, ⟨T75, L75, k75, n75⟩, -, X75, ⟨Lc75, hQ75, l75, y75, z75⟩, st75⟩ := X68.virtualBack hx (y := (⟨"com/example/vestledger/vestledger/plan/Elections$Part", "companyStock", "()Ljava/util/Optional;"⟩ : MethodName)) (z := (⟨"com/example/vestledger/vestledger/plan/Elections$Part", "companyStock", "()Ljava/util/Optional;"⟩ : MethodName)) hown (mvT hZ (hw _ (List.mem_of_getElem? (i := 118) rfl))) (mvT hZ (hw _ (List.mem_of_getElem? (i := 119) rfl))) (notFace_of_selects (args := #[]) (mvT hZ (hw _ (List.mem_of_getElem? (i := 121) rfl)))) (mvT hZ (hw _ (List.mem_of_getElem? (i := 121) rfl))) (mvT hZ (hw _ (List.mem_of_getElem? (i := 120) rfl))) (by decide) (backOf (W := 0) (rmGcompanyStock l Z a0 hw [] wC cC zC wO GS b_70 z_71 T68.heap n0 (by omega) oo73 p68_7) hZ (hw _ (List.mem_of_getElem? (i := 122) rfl)) (hw _ (List.mem_of_getElem? (i := 99) rfl)) (by decide) (by decide)) q75a q75c (g := (mkF m 174 #[.val (.int p0), .val (.int p1), .val (.int p2), .val (.int p3), .val (.int p4), .val (.int p5), .val (.ref x_2), .val (.ref x_7), .val (.int sv), .val (.ref b13), .val (.ref b29), .val (.ref oy), .val (.ref op), .val (.ref ob), .val (.ref b57), .val (.ref b_70), .unset] [(.ref b_70)])) rfl (by rw [hml]; rfl) (Steps.refl _) (argsL := []) (rest := []) (lenOf own_pd_13 rfl) rfl (by show 2 * 0 + _ ≤ _; exact Nat.le_of_eq rfl) (hb hby at_174) (fun _ _ => ⟨rfl, rfl, (by decide : 16 + 0 ≤ _), (by decide : 41 + 0 ≤ _)⟩)
          dsimp only [Pt.U, Pt.locs, Pt.cells, Pt.slots] at X75 l75 y75 z75 st75 hQ75
          subst l75 y75 z75
          obtain ⟨rfl, N75q, e75⟩ := hQ75
          have N76 := Fr.app N72 N75q
          refine own_by (T' := T75) (g' := (mkF m 177 #[.val (.int p0), .val (.int p1), .val (.int p2), .val (.int p3), .val (.int p4), .val (.int p5), .val (.ref x_2), .val (.ref x_7), .val (.int sv), .val (.ref b13), .val (.ref b29), .val (.ref oy), .val (.ref op), .val (.ref ob), .val (.ref b57), .val (.ref b_70), .unset] [(.ref z_71)])) (fun _ kt_ => st75.trans kt_) ?_
          refine own_by (T' := T75) (g' := (mkF m 179 #[.val (.int p0), .val (.int p1), .val (.int p2), .val (.int p3), .val (.int p4), .val (.int p5), .val (.ref x_2), .val (.ref x_7), .val (.int sv), .val (.ref b13), .val (.ref b29), .val (.ref oy), .val (.ref op), .val (.ref ob), .val (.ref b57), .val (.ref b_70), .val (.ref z_71)] [])) (fun _ kt_ => XS.astore X75.here hx rfl (hb hby at_177) rfl rfl (l' := #[.val (.int p0), .val (.int p1), .val (.int p2), .val (.int p3), .val (.int p4), .val (.int p5), .val (.ref x_2), .val (.ref x_7), .val (.int sv), .val (.ref b13), .val (.ref b29), .val (.ref oy), .val (.ref op), .val (.ref ob), .val (.ref b57), .val (.ref b_70), .val (.ref z_71)]) rfl kt_) ?_
          refine own_by (T' := T75) (g' := (mkF m 181 #[.val (.int p0), .val (.int p1), .val (.int p2), .val (.int p3), .val (.int p4), .val (.int p5), .val (.ref x_2), .val (.ref x_7), .val (.int sv), .val (.ref b13), .val (.ref b29), .val (.ref oy), .val (.ref op), .val (.ref ob), .val (.ref b57), .val (.ref b_70), .val (.ref z_71)] [(.ref b_70)])) (fun _ kt_ => XS.aload X75.here hx rfl (hb hby at_179) rfl rfl kt_) ?_
          obtain ⟨cq77, kq77, q77a, q77b, q77c⟩ := isOf hZ e75 p68_2
          obtain ⟨_, _, ⟨T77, L77, k77, n77⟩, -, X77, ⟨Lc77, hQ77, l77, y77, z77⟩, st77⟩ := X75.virtualBack hx (y := (⟨"com/example/vestledger/vestledger/plan/Elections$Part", "planYear", "()Ljava/util/Optional;"⟩ : MethodName)) (z := (⟨"com/example/vestledger/vestledger/plan/Elections$Part", "planYear", "()Ljava/util/Optional;"⟩ : MethodName)) hown (mvT hZ (hw _ (List.mem_of_getElem? (i := 123) rfl))) (mvT hZ (hw _ (List.mem_of_getElem? (i := 124) rfl))) (notFace_of_selects (args := #[]) (mvT hZ (hw _ (List.mem_of_getElem? (i := 126) rfl)))) (mvT hZ (hw _ (List.mem_of_getElem? (i := 126) rfl))) (mvT hZ (hw _ (List.mem_of_getElem? (i := 125) rfl))) (by decide) (backOf (W := 0) (rmGplanYear l Z a0 hw [] wC cC zC wO GS b_70 oy T68.heap n0 (by omega) oo73 p68_5) hZ (hw _ (List.mem_of_getElem? (i := 127) rfl)) (hw _ (List.mem_of_getElem? (i := 99) rfl)) (by decide) (by decide)) q77a q77c (g := (mkF m 181 #[.val (.int p0), .val (.int p1), .val (.int p2), .val (.int p3), .val (.int p4), .val (.int p5), .val (.ref x_2), .val (.ref x_7), .val (.int sv), .val (.ref b13), .val (.ref b29), .val (.ref oy), .val (.ref op), .val (.ref ob), .val (.ref b57), .val (.ref b_70), .val (.ref z_71)] [(.ref b_70)])) rfl (by rw [hml]; rfl) (Steps.refl _) (argsL := []) (rest := []) (lenOf own_pd_13 rfl) rfl (by show 2 * 0 + _ ≤ _; exact Nat.le_of_eq rfl) (hb hby at_181) (fun _ _ => ⟨rfl, e75, (by decide : 16 + 0 ≤ _), (by decide : 41 + 0 ≤ _)⟩)
          dsimp only [Pt.U, Pt.locs, Pt.cells, Pt.slots] at X77 l77 y77 z77 st77 hQ77
          subst l77 y77 z77
          obtain ⟨rfl, N77q, e77⟩ := hQ77
          have N78 := Fr.app N76 N77q
          refine own_by (T' := T77) (g' := (mkF m 184 #[.val (.int p0), .val (.int p1), .val (.int p2), .val (.int p3), .val (.int p4), .val (.int p5), .val (.ref x_2), .val (.ref x_7), .val (.int sv), .val (.ref b13), .val (.ref b29), .val (.ref oy), .val (.ref op), .val (.ref ob), .val (.ref b57), .val (.ref b_70), .val (.ref z_71)] [(.ref oy)])) (fun _ kt_ => st77.trans kt_) ?_
          refine own_by (T' := T77) (g' := (mkF m 186 #[.val (.int p0), .val (.int p1), .val (.int p2), .val (.int p3), .val (.int p4), .val (.int p5), .val (.ref x_2), .val (.ref x_7), .val (.int sv), .val (.ref b13), .val (.ref b29), .val (.ref oy), .val (.ref op), .val (.ref ob), .val (.ref b57), .val (.ref b_70), .val (.ref z_71)] [(.ref oy), (.ref oy)])) (fun _ kt_ => XS.aload X77.here hx rfl (hb hby at_184) rfl rfl kt_) ?_
          have f80 : Exa Z T68.heap oy "java/util/Optional" := (((((fj45_0.keep K49).keep K53).keep K58).keep K64).keep K68)
          obtain ⟨cq79, kq79, q79a, q79b, q79c⟩ := isOf hZ e77 f80
          obtain ⟨_, _, ⟨T79, L79, k79, n79⟩, -, X79, ⟨Lc79, hQ79, l79, y79, z79⟩, st79⟩ := X77.virtualBack hx (y := (⟨"java/util/Optional", "equals", "(Ljava/lang/Object;)Z"⟩ : MethodName)) (z := (⟨"java/util/Optional", "equals", "(Ljava/lang/Object;)Z"⟩ : MethodName)) hown (mvT hZ (hw _ (List.mem_of_getElem? (i := 128) rfl))) (mvT hZ (hw _ (List.mem_of_getElem? (i := 129) rfl))) (notFace_of_selects (args := #[]) (mvT hZ (hw _ (List.mem_of_getElem? (i := 131) rfl)))) (mvT hZ (hw _ (List.mem_of_getElem? (i := 131) rfl))) (mvT hZ (hw _ (List.mem_of_getElem? (i := 130) rfl))) (by decide) (backOf (W := 0) (rmOEq l Z a0 hw [] wC cC zC wO GS oy T68.heap n0 (by omega) oo73 ) hZ (hw _ (List.mem_of_getElem? (i := 132) rfl)) (hw _ (List.mem_of_getElem? (i := 39) rfl)) (by decide) (by decide)) q79a q79c (g := (mkF m 186 #[.val (.int p0), .val (.int p1), .val (.int p2), .val (.int p3), .val (.int p4), .val (.int p5), .val (.ref x_2), .val (.ref x_7), .val (.int sv), .val (.ref b13), .val (.ref b29), .val (.ref oy), .val (.ref op), .val (.ref ob), .val (.ref b57), .val (.ref b_70), .val (.ref z_71)] [(.ref oy), (.ref oy)])) rfl (by rw [hml]; rfl) (Steps.refl _) (argsL := [(.ref oy)]) (rest := []) (lenOf own_pd_11 rfl) rfl (by show 2 * 0 + _ ≤ _; exact Nat.le_of_eq rfl) (hb hby at_186) (fun _ _ => ⟨rfl, e77, (by decide : 16 + 0 ≤ _), (by decide : 41 + 0 ≤ _)⟩)
          dsimp only [Pt.U, Pt.locs, Pt.cells, Pt.slots] at X79 l79 y79 z79 st79 hQ79
          subst l79 y79 z79
          obtain ⟨rfl, N79q, e79⟩ := hQ79
          have N81 := Fr.app N78 N79q
          refine own_by (T' := T79) (g' := (mkF m 189 #[.val (.int p0), .val (.int p1), .val (.int p2), .val (.int p3), .val (.int p4), .val (.int p5), .val (.ref x_2), .val (.ref x_7), .val (.int sv), .val (.ref b13), .val (.ref b29), .val (.ref oy), .val (.ref op), .val (.ref ob), .val (.ref b57), .val (.ref b_70), .val (.ref z_71)] [(.int (1 : Int32))])) (fun _ kt_ => st79.trans kt_) ?_
          refine own_by (T' := T79) (g' := (mkF m 192 #[.val (.int p0), .val (.int p1), .val (.int p2), .val (.int p3), .val (.int p4), .val (.int p5), .val (.ref x_2), .val (.ref x_7), .val (.int sv), .val (.ref b13), .val (.ref b29), .val (.ref oy), .val (.ref op), .val (.ref ob), .val (.ref b57), .val (.ref b_70), .val (.ref z_71)] [])) (fun _ kt_ => XS.ifNo X79.here hx rfl (hb hby at_189) rfl (XT.i0_eq_f (by decide)) kt_) ?_
          refine own_by (T' := T79) (g' := (mkF m 194 #[.val (.int p0), .val (.int p1), .val (.int p2), .val (.int p3), .val (.int p4), .val (.int p5), .val (.ref x_2), .val (.ref x_7), .val (.int sv), .val (.ref b13), .val (.ref b29), .val (.ref oy), .val (.ref op), .val (.ref ob), .val (.ref b57), .val (.ref b_70), .val (.ref z_71)] [(.ref b_70)])) (fun _ kt_ => XS.aload X79.here hx rfl (hb hby at_192) rfl rfl kt_) ?_
          obtain ⟨cq82, kq82, q82a, q82b, q82c⟩ := isOf hZ e79 p68_2
          obtain ⟨_, _, ⟨T82, L82, k82, n82⟩, -, X82, ⟨Lc82, hQ82, l82, y82, z82⟩, st82⟩ := X79.virtualBack hx (y := (⟨"com/example/vestledger/vestledger/plan/Elections$Part", "payment", "()Ljava/util/Optional;"⟩ : MethodName)) (z := (⟨"com/example/vestledger/vestledger/plan/Elections$Part", "payment", "()Ljava/util/Optional;"⟩ : MethodName)) hown (mvT hZ (hw _ (List.mem_of_getElem? (i := 133) rfl))) (mvT hZ (hw _ (List.mem_of_getElem? (i := 134) rfl))) (notFace_of_selects (args := #[]) (mvT hZ (hw _ (List.mem_of_getElem? (i := 136) rfl)))) (mvT hZ (hw _ (List.mem_of_getElem? (i := 136) rfl))) (mvT hZ (hw _ (List.mem_of_getElem? (i := 135) rfl))) (by decide) (backOf (W := 0) (rmGpayment l Z a0 hw [] wC cC zC wO GS b_70 op T68.heap n0 (by omega) oo73 p68_6) hZ (hw _ (List.mem_of_getElem? (i := 137) rfl)) (hw _ (List.mem_of_getElem? (i := 99) rfl)) (by decide) (by decide)) q82a q82c (g := (mkF m 194 #[.val (.int p0), .val (.int p1), .val (.int p2), .val (.int p3), .val (.int p4), .val (.int p5), .val (.ref x_2), .val (.ref x_7), .val (.int sv), .val (.ref b13), .val (.ref b29), .val (.ref oy), .val (.ref op), .val (.ref ob), .val (.ref b57), .val (.ref b_70), .val (.ref z_71)] [(.ref b_70)])) rfl (by rw [hml]; rfl) (Steps.refl _) (argsL := []) (rest := []) (lenOf own_pd_13 rfl) rfl (by show 2 * 0 + _ ≤ _; exact Nat.le_of_eq rfl) (hb hby at_194) (fun _ _ => ⟨rfl, e79, (by decide : 16 + 0 ≤ _), (by decide : 41 + 0 ≤ _)⟩)
          dsimp only [Pt.U, Pt.locs, Pt.cells, Pt.slots] at X82 l82 y82 z82 st82 hQ82
          subst l82 y82 z82
          obtain ⟨rfl, N82q, e82⟩ := hQ82
          have N83 := Fr.app N81 N82q
          refine own_by (T' := T82) (g' := (mkF m 197 #[.val (.int p0), .val (.int p1), .val (.int p2), .val (.int p3), .val (.int p4), .val (.int p5), .val (.ref x_2), .val (.ref x_7), .val (.int sv), .val (.ref b13), .val (.ref b29), .val (.ref oy), .val (.ref op), .val (.ref ob), .val (.ref b57), .val (.ref b_70), .val (.ref z_71)] [(.ref op)])) (fun _ kt_ => st82.trans kt_) ?_
          refine own_by (T' := T82) (g' := (mkF m 199 #[.val (.int p0), .val (.int p1), .val (.int p2), .val (.int p3), .val (.int p4), .val (.int p5), .val (.ref x_2), .val (.ref x_7), .val (.int sv), .val (.ref b13), .val (.ref b29), .val (.ref oy), .val (.ref op), .val (.ref ob), .val (.ref b57), .val (.ref b_70), .val (.ref z_71)] [(.ref op), (.ref op)])) (fun _ kt_ => XS.aload X82.here hx rfl (hb hby at_197) rfl rfl kt_) ?_
          have f85 : Exa Z T68.heap op "java/util/Optional" := ((((fj49_0.keep K53).keep K58).keep K64).keep K68)
          obtain ⟨cq84, kq84, q84a, q84b, q84c⟩ := isOf hZ e82 f85
          obtain ⟨_, _, ⟨T84, L84, k84, n84⟩, -, X84, ⟨Lc84, hQ84, l84, y84, z84⟩, st84⟩ := X82.virtualBack hx (y := (⟨"java/util/Optional", "equals", "(Ljava/lang/Object;)Z"⟩ : MethodName)) (z := (⟨"java/util/Optional", "equals", "(Ljava/lang/Object;)Z"⟩ : MethodName)) hown (mvT hZ (hw _ (List.mem_of_getElem? (i := 128) rfl))) (mvT hZ (hw _ (List.mem_of_getElem? (i := 129) rfl))) (notFace_of_selects (args := #[]) (mvT hZ (hw _ (List.mem_of_getElem? (i := 131) rfl)))) (mvT hZ (hw _ (List.mem_of_getElem? (i := 131) rfl))) (mvT hZ (hw _ (List.mem_of_getElem? (i := 130) rfl))) (by decide) (backOf (W := 0) (rmOEq l Z a0 hw [] wC cC zC wO GS op T68.heap n0 (by omega) oo73 ) hZ (hw _ (List.mem_of_getElem? (i := 132) rfl)) (hw _ (List.mem_of_getElem? (i := 39) rfl)) (by decide) (by decide)) q84a q84c (g := (mkF m 199 #[.val (.int p0), .val (.int p1), .val (.int p2), .val (.int p3), .val (.int p4), .val (.int p5), .val (.ref x_2), .val (.ref x_7), .val (.int sv), .val (.ref b13), .val (.ref b29), .val (.ref oy), .val (.ref op), .val (.ref ob), .val (.ref b57), .val (.ref b_70), .val (.ref z_71)] [(.ref op), (.ref op)])) rfl (by rw [hml]; rfl) (Steps.refl _) (argsL := [(.ref op)]) (rest := []) (lenOf own_pd_11 rfl) rfl (by show 2 * 0 + _ ≤ _; exact Nat.le_of_eq rfl) (hb hby at_199) (fun _ _ => ⟨rfl, e82, (by decide : 16 + 0 ≤ _), (by decide : 41 + 0 ≤ _)⟩)
          dsimp only [Pt.U, Pt.locs, Pt.cells, Pt.slots] at X84 l84 y84 z84 st84 hQ84
          subst l84 y84 z84
          obtain ⟨rfl, N84q, e84⟩ := hQ84
          have N86 := Fr.app N83 N84q
          refine own_by (T' := T84) (g' := (mkF m 202 #[.val (.int p0), .val (.int p1), .val (.int p2), .val (.int p3), .val (.int p4), .val (.int p5), .val (.ref x_2), .val (.ref x_7), .val (.int sv), .val (.ref b13), .val (.ref b29), .val (.ref oy), .val (.ref op), .val (.ref ob), .val (.ref b57), .val (.ref b_70), .val (.ref z_71)] [(.int (1 : Int32))])) (fun _ kt_ => st84.trans kt_) ?_
          refine own_by (T' := T84) (g' := (mkF m 205 #[.val (.int p0), .val (.int p1), .val (.int p2), .val (.int p3), .val (.int p4), .val (.int p5), .val (.ref x_2), .val (.ref x_7), .val (.int sv), .val (.ref b13), .val (.ref b29), .val (.ref oy), .val (.ref op), .val (.ref ob), .val (.ref b57), .val (.ref b_70), .val (.ref z_71)] [])) (fun _ kt_ => XS.ifNo X84.here hx rfl (hb hby at_202) rfl (XT.i0_eq_f (by decide)) kt_) ?_
          refine own_by (T' := T84) (g' := (mkF m 207 #[.val (.int p0), .val (.int p1), .val (.int p2), .val (.int p3), .val (.int p4), .val (.int p5), .val (.ref x_2), .val (.ref x_7), .val (.int sv), .val (.ref b13), .val (.ref b29), .val (.ref oy), .val (.ref op), .val (.ref ob), .val (.ref b57), .val (.ref b_70), .val (.ref z_71)] [(.ref z_71)])) (fun _ kt_ => XS.aload X84.here hx rfl (hb hby at_205) rfl rfl kt_) ?_
          obtain ⟨cq87, kq87, q87a, q87b, q87c⟩ := isOf hZ e84 p68_3
          obtain ⟨_, _, ⟨T87, L87, k87, n87⟩, -, X87, ⟨Lc87, hQ87, l87, y87, z87⟩, st87⟩ := X84.virtualBack hx (y := (⟨"java/util/Optional", "isPresent", "()Z"⟩ : MethodName)) (z := (⟨"java/util/Optional", "isPresent", "()Z"⟩ : MethodName)) hown (mvT hZ (hw _ (List.mem_of_getElem? (i := 138) rfl))) (mvT hZ (hw _ (List.mem_of_getElem? (i := 139) rfl))) (notFace_of_selects (args := #[]) (mvT hZ (hw _ (List.mem_of_getElem? (i := 141) rfl)))) (mvT hZ (hw _ (List.mem_of_getElem? (i := 141) rfl))) (mvT hZ (hw _ (List.mem_of_getElem? (i := 140) rfl))) (by decide) (backOf (W := 0) (rmIsP l Z a0 hw [] wC cC zC wO GS z_71 b13 T68.heap n0 (by omega) oo73 p68_4) hZ (hw _ (List.mem_of_getElem? (i := 142) rfl)) (hw _ (List.mem_of_getElem? (i := 39) rfl)) (by decide) (by decide)) q87a q87c (g := (mkF m 207 #[.val (.int p0), .val (.int p1), .val (.int p2), .val (.int p3), .val (.int p4), .val (.int p5), .val (.ref x_2), .val (.ref x_7), .val (.int sv), .val (.ref b13), .val (.ref b29), .val (.ref oy), .val (.ref op), .val (.ref ob), .val (.ref b57), .val (.ref b_70), .val (.ref z_71)] [(.ref z_71)])) rfl (by rw [hml]; rfl) (Steps.refl _) (argsL := []) (rest := []) (lenOf own_pd_16 rfl) rfl (by show 2 * 0 + _ ≤ _; exact Nat.le_of_eq rfl) (hb hby at_207) (fun _ _ => ⟨rfl, e84, (by decide : 16 + 0 ≤ _), (by decide : 41 + 0 ≤ _)⟩)
          dsimp only [Pt.U, Pt.locs, Pt.cells, Pt.slots] at X87 l87 y87 z87 st87 hQ87
          subst l87 y87 z87
          obtain ⟨rfl, N87q, e87⟩ := hQ87
          have N88 := Fr.app N86 N87q
          refine own_by (T' := T87) (g' := (mkF m 210 #[.val (.int p0), .val (.int p1), .val (.int p2), .val (.int p3), .val (.int p4), .val (.int p5), .val (.ref x_2), .val (.ref x_7), .val (.int sv), .val (.ref b13), .val (.ref b29), .val (.ref oy), .val (.ref op), .val (.ref ob), .val (.ref b57), .val (.ref b_70), .val (.ref z_71)] [(.int (1 : Int32))])) (fun _ kt_ => st87.trans kt_) ?_
          refine own_by (T' := T87) (g' := (mkF m 213 #[.val (.int p0), .val (.int p1), .val (.int p2), .val (.int p3), .val (.int p4), .val (.int p5), .val (.ref x_2), .val (.ref x_7), .val (.int sv), .val (.ref b13), .val (.ref b29), .val (.ref oy), .val (.ref op), .val (.ref ob), .val (.ref b57), .val (.ref b_70), .val (.ref z_71)] [])) (fun _ kt_ => XS.ifNo X87.here hx rfl (hb hby at_210) rfl (XT.i0_eq_f (by decide)) kt_) ?_
          refine own_by (T' := T87) (g' := (mkF m 215 #[.val (.int p0), .val (.int p1), .val (.int p2), .val (.int p3), .val (.int p4), .val (.int p5), .val (.ref x_2), .val (.ref x_7), .val (.int sv), .val (.ref b13), .val (.ref b29), .val (.ref oy), .val (.ref op), .val (.ref ob), .val (.ref b57), .val (.ref b_70), .val (.ref z_71)] [(.ref z_71)])) (fun _ kt_ => XS.aload X87.here hx rfl (hb hby at_213) rfl rfl kt_) ?_
          obtain ⟨cq89, kq89, q89a, q89b, q89c⟩ := isOf hZ e87 p68_3
          obtain ⟨_, _, ⟨T89, L89, k89, n89⟩, -, X89, ⟨Lc89, hQ89, l89, y89, z89⟩, st89⟩ := X87.virtualBack hx (y := (⟨"java/util/Optional", "get", "()Ljava/lang/Object;"⟩ : MethodName)) (z := (⟨"java/util/Optional", "get", "()Ljava/lang/Object;"⟩ : MethodName)) hown (mvT hZ (hw _ (List.mem_of_getElem? (i := 143) rfl))) (mvT hZ (hw _ (List.mem_of_getElem? (i := 144) rfl))) (notFace_of_selects (args := #[]) (mvT hZ (hw _ (List.mem_of_getElem? (i := 146) rfl)))) (mvT hZ (hw _ (List.mem_of_getElem? (i := 146) rfl))) (mvT hZ (hw _ (List.mem_of_getElem? (i := 145) rfl))) (by decide) (backOf (W := 0) (rmGet l Z a0 hw [] wC cC zC wO GS z_71 b13 T68.heap n0 (by omega) oo73 p68_4) hZ (hw _ (List.mem_of_getElem? (i := 147) rfl)) (hw _ (List.mem_of_getElem? (i := 39) rfl)) (by decide) (by decide)) q89a q89c (g := (mkF m 215 #[.val (.int p0), .val (.int p1), .val (.int p2), .val (.int p3), .val (.int p4), .val (.int p5), .val (.ref x_2), .val (.ref x_7), .val (.int sv), .val (.ref b13), .val (.ref b29), .val (.ref oy), .val (.ref op), .val (.ref ob), .val (.ref b57), .val (.ref b_70), .val (.ref z_71)] [(.ref z_71)])) rfl (by rw [hml]; rfl) (Steps.refl _) (argsL := []) (rest := []) (lenOf own_pd_17 rfl) rfl (by show 2 * 0 + _ ≤ _; exact Nat.le_of_eq rfl) (hb hby at_215) (fun _ _ => ⟨rfl, e87, (by decide : 16 + 0 ≤ _), (by decide : 41 + 0 ≤ _)⟩)
          dsimp only [Pt.U, Pt.locs, Pt.cells, Pt.slots] at X89 l89 y89 z89 st89 hQ89
          subst l89 y89 z89
          obtain ⟨rfl, N89q, e89⟩ := hQ89
          have N90 := Fr.app N88 N89q
          refine own_by (T' := T89) (g' := (mkF m 218 #[.val (.int p0), .val (.int p1), .val (.int p2), .val (.int p3), .val (.int p4), .val (.int p5), .val (.ref x_2), .val (.ref x_7), .val (.int sv), .val (.ref b13), .val (.ref b29), .val (.ref oy), .val (.ref op), .val (.ref ob), .val (.ref b57), .val (.ref b_70), .val (.ref z_71)] [(.ref b13)])) (fun _ kt_ => st89.trans kt_) ?_
          have f92 : Exa Z T68.heap b13 "com/example/vestledger/vestledger/plan/Fund" := (((((((((A13.keep K25).keep K30).keep K41).keep K45).keep K49).keep K53).keep K58).keep K64).keep K68)
          obtain ⟨T91, X91, e91, st91⟩ := castY X89 hx hZ hown (hw _ (List.mem_of_getElem? (i := 34) rfl)) e89 (Ins.self f92) (g := (mkF m 218 #[.val (.int p0), .val (.int p1), .val (.int p2), .val (.int p3), .val (.int p4), .val (.int p5), .val (.ref x_2), .val (.ref x_7), .val (.int sv), .val (.ref b13), .val (.ref b29), .val (.ref oy), .val (.ref op), .val (.ref ob), .val (.ref b57), .val (.ref b_70), .val (.ref z_71)] [(.ref b13)])) rfl rfl (hb hby at_218)
          refine own_by (T' := T91) (g' := (mkF m 221 #[.val (.int p0), .val (.int p1), .val (.int p2), .val (.int p3), .val (.int p4), .val (.int p5), .val (.ref x_2), .val (.ref x_7), .val (.int sv), .val (.ref b13), .val (.ref b29), .val (.ref oy), .val (.ref op), .val (.ref ob), .val (.ref b57), .val (.ref b_70), .val (.ref z_71)] [(.ref b13)])) st91 ?_
          refine own_by (T' := T91) (g' := (mkF m 223 #[.val (.int p0), .val (.int p1), .val (.int p2), .val (.int p3), .val (.int p4), .val (.int p5), .val (.ref x_2), .val (.ref x_7), .val (.int sv), .val (.ref b13), .val (.ref b29), .val (.ref oy), .val (.ref op), .val (.ref ob), .val (.ref b57), .val (.ref b_70), .val (.ref z_71)] [(.ref b13), (.ref b13)])) (fun _ kt_ => XS.aload X91.here hx rfl (hb hby at_221) rfl rfl kt_) ?_
          have ne93 : @Ne Nat b13 b29 := by omega
          have ne94 : @Ne Nat b13 b57 := by omega
          have f95 : Fld Z T68.heap b13 "com/example/vestledger/vestledger/plan/Fund" "number" "I" (.int p3) := ((((((((p25_0.keep K30 nin0).keep K41 (ninS ne93 nin0)).keep K45 nin0).keep K49 nin0).keep K53 nin0).keep K58 nin0).keep K64 (ninS ne94 nin0)).keep K68 nin0)
          have f96 : Fld Z T68.heap b13 "com/example/vestledger/vestledger/plan/Fund" "id" "Ljava/lang/String;" (.ref x_2) := ((((((((p25_1.keep K30 nin0).keep K41 (ninS ne93 nin0)).keep K45 nin0).keep K49 nin0).keep K53 nin0).keep K58 nin0).keep K64 (ninS ne94 nin0)).keep K68 nin0)
          have f97 : Fld Z T68.heap b13 "com/example/vestledger/vestledger/plan/Fund" "name" "Ljava/lang/String;" (.ref x_7) := ((((((((p25_2.keep K30 nin0).keep K41 (ninS ne93 nin0)).keep K45 nin0).keep K49 nin0).keep K53 nin0).keep K58 nin0).keep K64 (ninS ne94 nin0)).keep K68 nin0)
          have f98 : Fld Z T68.heap b13 "com/example/vestledger/vestledger/plan/Fund" "fixedPrice" "Ljava/util/Optional;" (.ref wO) := ((((((((p25_3.keep K30 nin0).keep K41 (ninS ne93 nin0)).keep K45 nin0).keep K49 nin0).keep K53 nin0).keep K58 nin0).keep K64 (ninS ne94 nin0)).keep K68 nin0)
          have f99 : Fld Z T68.heap b13 "com/example/vestledger/vestledger/plan/Fund" "companyStock" "Z" (.int (sv &&& 1)) := ((((((((p25_4.keep K30 nin0).keep K41 (ninS ne93 nin0)).keep K45 nin0).keep K49 nin0).keep K53 nin0).keep K58 nin0).keep K64 (ninS ne94 nin0)).keep K68 nin0)
          have f100 : Fld Z T68.heap b13 "com/example/vestledger/vestledger/plan/Fund" "line" "I" (.int p5) := ((((((((p25_5.keep K30 nin0).keep K41 (ninS ne93 nin0)).keep K45 nin0).keep K49 nin0).keep K53 nin0).keep K58 nin0).keep K64 (ninS ne94 nin0)).keep K68 nin0)
          have f101 : Exa Z T68.heap x_2 "java/lang/String" := (((((((((((p1_1.keep K6).keep K14).keep K25).keep K30).keep K41).keep K45).keep K49).keep K53).keep K58).keep K64).keep K68)
          have f102 : Exa Z T68.heap x_7 "java/lang/String" := ((((((((((p6_1.keep K14).keep K25).keep K30).keep K41).keep K45).keep K49).keep K53).keep K58).keep K64).keep K68)
          have f103 := GS.2.2.2.2.2.2.1.ext oo73.2
          obtain ⟨cq104, kq104, q104a, q104b, q104c⟩ := isOf hZ e91 f92
          obtain ⟨_, _, ⟨T104, L104, k104, n104⟩, -, X104, ⟨Lc104, hQ104, l104, y104, z104⟩, st104⟩ := X91.virtualBack hx (y := (⟨"com/example/vestledger/vestledger/plan/Fund", "equals", "(Ljava/lang/Object;)Z"⟩ : MethodName)) (z := (⟨"com/example/vestledger/vestledger/plan/Fund", "equals", "(Ljava/lang/Object;)Z"⟩ : MethodName)) hown (mvT hZ (hw _ (List.mem_of_getElem? (i := 149) rfl))) (mvT hZ (hw _ (List.mem_of_getElem? (i := 150) rfl))) (notFace_of_selects (args := #[]) (mvT hZ (hw _ (List.mem_of_getElem? (i := 152) rfl)))) (mvT hZ (hw _ (List.mem_of_getElem? (i := 152) rfl))) (mvT hZ (hw _ (List.mem_of_getElem? (i := 151) rfl))) (by decide) (backOf (W := 0) (rmFEq l Z a0 hw [] wC cC zC wO GS b13 p3 x_2 x_7 wO (sv &&& 1) p5 T68.heap n0 (by omega) oo73 f92 f95 f96 f97 f98 f99 f100 f101 f102 f103) hZ (hw _ (List.mem_of_getElem? (i := 153) rfl)) (hw _ (List.mem_of_getElem? (i := 36) rfl)) (by decide) (by decide)) q104a q104c (g := (mkF m 223 #[.val (.int p0), .val (.int p1), .val (.int p2), .val (.int p3), .val (.int p4), .val (.int p5), .val (.ref x_2), .val (.ref x_7), .val (.int sv), .val (.ref b13), .val (.ref b29), .val (.ref oy), .val (.ref op), .val (.ref ob), .val (.ref b57), .val (.ref b_70), .val (.ref z_71)] [(.ref b13), (.ref b13)])) rfl (by rw [hml]; rfl) (Steps.refl _) (argsL := [(.ref b13)]) (rest := []) (lenOf own_pd_11 rfl) rfl (by show 2 * 0 + _ ≤ _; exact Nat.le_of_eq rfl) (hb hby at_223) (fun _ _ => ⟨rfl, e91, (by decide : 16 + 0 ≤ _), (by decide : 41 + 0 ≤ _)⟩)
          dsimp only [Pt.U, Pt.locs, Pt.cells, Pt.slots] at X104 l104 y104 z104 st104 hQ104
          subst l104 y104 z104
          obtain ⟨rfl, N104q, e104⟩ := hQ104
          have N105 := Fr.app N90 N104q
          refine own_by (T' := T104) (g' := (mkF m 226 #[.val (.int p0), .val (.int p1), .val (.int p2), .val (.int p3), .val (.int p4), .val (.int p5), .val (.ref x_2), .val (.ref x_7), .val (.int sv), .val (.ref b13), .val (.ref b29), .val (.ref oy), .val (.ref op), .val (.ref ob), .val (.ref b57), .val (.ref b_70), .val (.ref z_71)] [(.int (1 : Int32))])) (fun _ kt_ => st104.trans kt_) ?_
          refine own_by (T' := T104) (g' := (mkF m 229 #[.val (.int p0), .val (.int p1), .val (.int p2), .val (.int p3), .val (.int p4), .val (.int p5), .val (.ref x_2), .val (.ref x_7), .val (.int sv), .val (.ref b13), .val (.ref b29), .val (.ref oy), .val (.ref op), .val (.ref ob), .val (.ref b57), .val (.ref b_70), .val (.ref z_71)] [])) (fun _ kt_ => XS.ifNo X104.here hx rfl (hb hby at_226) rfl (XT.i0_eq_f (by decide)) kt_) ?_
          refine own_by (T' := T104) (g' := (mkF m 230 #[.val (.int p0), .val (.int p1), .val (.int p2), .val (.int p3), .val (.int p4), .val (.int p5), .val (.ref x_2), .val (.ref x_7), .val (.int sv), .val (.ref b13), .val (.ref b29), .val (.ref oy), .val (.ref op), .val (.ref ob), .val (.ref b57), .val (.ref b_70), .val (.ref z_71)] [(.int (1 : Int32))])) (fun _ kt_ => XS.iconst X104.here hx rfl (hb hby at_229) kt_) ?_
          refine own_by (T' := T104) (g' := (mkF m 234 #[.val (.int p0), .val (.int p1), .val (.int p2), .val (.int p3), .val (.int p4), .val (.int p5), .val (.ref x_2), .val (.ref x_7), .val (.int sv), .val (.ref b13), .val (.ref b29), .val (.ref oy), .val (.ref op), .val (.ref ob), .val (.ref b57), .val (.ref b_70), .val (.ref z_71)] [(.int (1 : Int32))])) (fun _ kt_ => XS.goto X104.here hx rfl (pc0 := 230) (pc' := 234) rfl (hb hby at_230) (by decide) (by decide) kt_) ?_
          have hn106 : nar .boolean (1 : Int32) = (1 : Int32) := rfl
          obtain ⟨fs107, hr107, hrun107, hended107, hW107, hsame107⟩ := X104.leave (v := some (.int (nar .boolean (1 : Int32)))) (fun h => by rw [Bd.returns] at h; cases h)
          refine ⟨_, _, retN X104 hx (t := .boolean) Bd.returns (by simp) (hb hby at_234) hr107, hrun107, hended107, _, _, rfl, ?_, ⟨_, rfl⟩, hW107, hsame107.mono (by decide) (by decide)⟩
          show Q_rm0 Z wC cC zC wO p0 p1 p2 p3 p4 p5 h0 n0 _ T104.heap _
          exact ⟨(congrArg (fun z => some (Value.int z)) hn106), N105⟩
        refine own_by (T' := T49) (g' := (mkF m 123 #[.val (.int p0), .val (.int p1), .val (.int p2), .val (.int p3), .val (.int p4), .val (.int p5), .val (.ref x_2), .val (.ref x_7), .val (.int sv), .val (.ref b13), .val (.ref b29), .val (.ref oy), .val (.ref op), .unset, .unset, .unset, .unset] [(.int p1)])) (fun _ kt_ => XS.iloadN X49.here hx rfl (hb hby at_122) rfl kt_) ?_
        refine own_by (T' := T49) (g' := (mkF m 124 #[.val (.int p0), .val (.int p1), .val (.int p2), .val (.int p3), .val (.int p4), .val (.int p5), .val (.ref x_2), .val (.ref x_7), .val (.int sv), .val (.ref b13), .val (.ref b29), .val (.ref oy), .val (.ref op), .unset, .unset, .unset, .unset] [(.int (4 : Int32)), (.int p1)])) (fun _ kt_ => XS.iconst X49.here hx rfl (hb hby at_123) kt_) ?_
        refine own_by (T' := T49) (g' := (mkF m 125 #[.val (.int p0), .val (.int p1), .val (.int p2), .val (.int p3), .val (.int p4), .val (.int p5), .val (.ref x_2), .val (.ref x_7), .val (.int sv), .val (.ref b13), .val (.ref b29), .val (.ref oy), .val (.ref op), .unset, .unset, .unset, .unset] [(.int (p1 &&& (4 : Int32)))])) (fun _ kt_ => XS.iand X49.here hx rfl (hb hby at_124) rfl kt_) ?_
        by_cases hc108 : (p1 &&& (4 : Int32)) = (0 : Int32)
        · refine own_by (T' := T49) (g' := (mkF m 136 #[.val (.int p0), .val (.int p1), .val (.int p2), .val (.int p3), .val (.int p4), .val (.int p5), .val (.ref x_2), .val (.ref x_7), .val (.int sv), .val (.ref b13), .val (.ref b29), .val (.ref oy), .val (.ref op), .unset, .unset, .unset, .unset] [])) (fun _ kt_ => XS.ifYes X49.here hx rfl (pc0 := 125) (pc' := 136) rfl (hb hby at_125) rfl (XT.i0_eq_t hc108) (by decide) (by decide) kt_) ?_
          obtain ⟨_, _, ⟨T109, L109, k109, n109⟩, -, X109, ⟨Lc109, hQ109, l109, y109, z109⟩, st109⟩ := Jvm.LawKit.callS X49 hx (y := (⟨"java/util/Optional", "empty", "()Ljava/util/Optional;"⟩ : MethodName)) hown (mvT hZ (hw _ (List.mem_of_getElem? (i := 37) rfl))) (mvT hZ (hw _ (List.mem_of_getElem? (i := 38) rfl))) (mvT hZ (hw _ (List.mem_of_getElem? (i := 39) rfl))) (mvT hZ (hw _ (List.mem_of_getElem? (i := 40) rfl))) (by decide) (backOf (W := 0) (rmOE l Z a0 hw [] wC cC zC wO GS  hp49 n0 (by omega) oo51 ) hZ (hw _ (List.mem_of_getElem? (i := 40) rfl)) (hw _ (List.mem_of_getElem? (i := 39) rfl)) (by decide) (by decide)) (g := (mkF m 136 #[.val (.int p0), .val (.int p1), .val (.int p2), .val (.int p3), .val (.int p4), .val (.int p5), .val (.ref x_2), .val (.ref x_7), .val (.int sv), .val (.ref b13), .val (.ref b29), .val (.ref oy), .val (.ref op), .unset, .unset, .unset, .unset] [])) rfl (by rw [hml]; rfl) (argsL := []) (rest := []) (lenOf own_pd_13 rfl) rfl (by show 2 * 0 + _ ≤ _; exact Nat.le_of_eq rfl) (hb hby at_136) (fun _ _ => ⟨rfl, e49, (by decide : 12 + 0 ≤ _), (by decide : 33 + 0 ≤ _)⟩)
          dsimp only [Pt.U, Pt.locs, Pt.cells, Pt.slots] at X109 l109 y109 z109 st109 hQ109
          subst l109 y109 z109
          obtain ⟨rfl, N109q, e109⟩ := hQ109
          have N110 := Fr.app N49 N109q
          refine own_by (T' := T109) (g' := (mkF m 139 #[.val (.int p0), .val (.int p1), .val (.int p2), .val (.int p3), .val (.int p4), .val (.int p5), .val (.ref x_2), .val (.ref x_7), .val (.int sv), .val (.ref b13), .val (.ref b29), .val (.ref oy), .val (.ref op), .unset, .unset, .unset, .unset] [(.ref wO)])) st109 ?_
          have kj111 : Keep hp49 hp49 [] := (Keep.refl hp49 [])
          have f112 := GS.2.2.2.2.2.2.1.ext oo51.2
          exact J53 T109 _ hp49 (X109.more (by decide) (by decide)) e109 kj111 N110 wO f112 trivial
        · refine own_by (T' := T49) (g' := (mkF m 128 #[.val (.int p0), .val (.int p1), .val (.int p2), .val (.int p3), .val (.int p4), .val (.int p5), .val (.ref x_2), .val (.ref x_7), .val (.int sv), .val (.ref b13), .val (.ref b29), .val (.ref oy), .val (.ref op), .unset, .unset, .unset, .unset] [])) (fun _ kt_ => XS.ifNo X49.here hx rfl (hb hby at_125) rfl (XT.i0_eq_f hc108) kt_) ?_
          refine own_by (T' := T49) (g' := (mkF m 130 #[.val (.int p0), .val (.int p1), .val (.int p2), .val (.int p3), .val (.int p4), .val (.int p5), .val (.ref x_2), .val (.ref x_7), .val (.int sv), .val (.ref b13), .val (.ref b29), .val (.ref oy), .val (.ref op), .unset, .unset, .unset, .unset] [(.ref b29)])) (fun _ kt_ => XS.aload X49.here hx rfl (hb hby at_128) rfl rfl kt_) ?_
          obtain ⟨_, _, ⟨T113, L113, k113, n113⟩, -, X113, ⟨Lc113, hQ113, l113, y113, z113⟩, st113⟩ := Jvm.LawKit.callS X49 hx (y := (⟨"java/util/Optional", "of", "(Ljava/lang/Object;)Ljava/util/Optional;"⟩ : MethodName)) hown (mvT hZ (hw _ (List.mem_of_getElem? (i := 70) rfl))) (mvT hZ (hw _ (List.mem_of_getElem? (i := 71) rfl))) (mvT hZ (hw _ (List.mem_of_getElem? (i := 39) rfl))) (mvT hZ (hw _ (List.mem_of_getElem? (i := 72) rfl))) (by decide) (backOf (W := 0) (rmOf l Z a0 hw [] wC cC zC wO GS b29 hp49 n0 (by omega) oo51 ) hZ (hw _ (List.mem_of_getElem? (i := 72) rfl)) (hw _ (List.mem_of_getElem? (i := 39) rfl)) (by decide) (by decide)) (g := (mkF m 130 #[.val (.int p0), .val (.int p1), .val (.int p2), .val (.int p3), .val (.int p4), .val (.int p5), .val (.ref x_2), .val (.ref x_7), .val (.int sv), .val (.ref b13), .val (.ref b29), .val (.ref oy), .val (.ref op), .unset, .unset, .unset, .unset] [(.ref b29)])) rfl (by rw [hml]; rfl) (argsL := [(.ref b29)]) (rest := []) (lenOf own_pd_9 rfl) rfl (by show 2 * 0 + _ ≤ _; exact Nat.le_of_eq rfl) (hb hby at_130) (fun _ _ => ⟨rfl, e49, (by decide : 12 + 1 ≤ _), (by decide : 33 + 1 ≤ _)⟩)
          dsimp only [Pt.U, Pt.locs, Pt.cells, Pt.slots] at X113 l113 y113 z113 st113 hQ113
          subst l113 y113 z113
          obtain ⟨b_114, rfl, N113q, K113, p113_0, p113_1, p113_2⟩ := hQ113
          have N115 := Fr.app N49 N113q
          have gb_114 : hp49.size ≤ b_114 := p113_0
          have zzK113 : hp49.size ≤ T113.heap.size := K113.1
          have oo116 : Old Z n0 T113.heap := oo51.keep K113 all0
          have kt117 : Keep h0 T113.heap [] := kt52.trans K113 all0
          refine own_by (T' := T113) (g' := (mkF m 133 #[.val (.int p0), .val (.int p1), .val (.int p2), .val (.int p3), .val (.int p4), .val (.int p5), .val (.ref x_2), .val (.ref x_7), .val (.int sv), .val (.ref b13), .val (.ref b29), .val (.ref oy), .val (.ref op), .unset, .unset, .unset, .unset] [(.ref b_114)])) st113 ?_
          refine own_by (T' := T113) (g' := (mkF m 139 #[.val (.int p0), .val (.int p1), .val (.int p2), .val (.int p3), .val (.int p4), .val (.int p5), .val (.ref x_2), .val (.ref x_7), .val (.int sv), .val (.ref b13), .val (.ref b29), .val (.ref oy), .val (.ref op), .unset, .unset, .unset, .unset] [(.ref b_114)])) (fun _ kt_ => XS.goto X113.here hx rfl (pc0 := 133) (pc' := 139) rfl (hb hby at_133) (by decide) (by decide) kt_) ?_
          have kj118 : Keep hp49 T113.heap [] := ((Keep.refl hp49 []).trans K113 all0)
          exact J53 T113 _ T113.heap X113 rfl kj118 N115 b_114 p113_1 trivial
      refine own_by (T' := T45) (g' := (mkF m 97 #[.val (.int p0), .val (.int p1), .val (.int p2), .val (.int p3), .val (.int p4), .val (.int p5), .val (.ref x_2), .val (.ref x_7), .val (.int sv), .val (.ref b13), .val (.ref b29), .val (.ref oy), .unset, .unset, .unset, .unset, .unset] [(.int p1)])) (fun _ kt_ => XS.iloadN X45.here hx rfl (hb hby at_96) rfl kt_) ?_
      refine own_by (T' := T45) (g' := (mkF m 98 #[.val (.int p0), .val (.int p1), .val (.int p2), .val (.int p3), .val (.int p4), .val (.int p5), .val (.ref x_2), .val (.ref x_7), .val (.int sv), .val (.ref b13), .val (.ref b29), .val (.ref oy), .unset, .unset, .unset, .unset, .unset] [(.int (2 : Int32)), (.int p1)])) (fun _ kt_ => XS.iconst X45.here hx rfl (hb hby at_97) kt_) ?_
      refine own_by (T' := T45) (g' := (mkF m 99 #[.val (.int p0), .val (.int p1), .val (.int p2), .val (.int p3), .val (.int p4), .val (.int p5), .val (.ref x_2), .val (.ref x_7), .val (.int sv), .val (.ref b13), .val (.ref b29), .val (.ref oy), .unset, .unset, .unset, .unset, .unset] [(.int (p1 &&& (2 : Int32)))])) (fun _ kt_ => XS.iand X45.here hx rfl (hb hby at_98) rfl kt_) ?_
      by_cases hc119 : (p1 &&& (2 : Int32)) = (0 : Int32)
      · refine own_by (T' := T45) (g' := (mkF m 117 #[.val (.int p0), .val (.int p1), .val (.int p2), .val (.int p3), .val (.int p4), .val (.int p5), .val (.ref x_2), .val (.ref x_7), .val (.int sv), .val (.ref b13), .val (.ref b29), .val (.ref oy), .unset, .unset, .unset, .unset, .unset] [])) (fun _ kt_ => XS.ifYes X45.here hx rfl (pc0 := 99) (pc' := 117) rfl (hb hby at_99) rfl (XT.i0_eq_t hc119) (by decide) (by decide) kt_) ?_
        obtain ⟨_, _, ⟨T120, L120, k120, n120⟩, -, X120, ⟨Lc120, hQ120, l120, y120, z120⟩, st120⟩ := Jvm.LawKit.callS X45 hx (y := (⟨"java/util/Optional", "empty", "()Ljava/util/Optional;"⟩ : MethodName)) hown (mvT hZ (hw _ (List.mem_of_getElem? (i := 37) rfl))) (mvT hZ (hw _ (List.mem_of_getElem? (i := 38) rfl))) (mvT hZ (hw _ (List.mem_of_getElem? (i := 39) rfl))) (mvT hZ (hw _ (List.mem_of_getElem? (i := 40) rfl))) (by decide) (backOf (W := 0) (rmOE l Z a0 hw [] wC cC zC wO GS  hp45 n0 (by omega) oo47 ) hZ (hw _ (List.mem_of_getElem? (i := 40) rfl)) (hw _ (List.mem_of_getElem? (i := 39) rfl)) (by decide) (by decide)) (g := (mkF m 117 #[.val (.int p0), .val (.int p1), .val (.int p2), .val (.int p3), .val (.int p4), .val (.int p5), .val (.ref x_2), .val (.ref x_7), .val (.int sv), .val (.ref b13), .val (.ref b29), .val (.ref oy), .unset, .unset, .unset, .unset, .unset] [])) rfl (by rw [hml]; rfl) (argsL := []) (rest := []) (lenOf own_pd_13 rfl) rfl (by show 2 * 0 + _ ≤ _; exact Nat.le_of_eq rfl) (hb hby at_117) (fun _ _ => ⟨rfl, e45, (by decide : 10 + 0 ≤ _), (by decide : 30 + 0 ≤ _)⟩)
        dsimp only [Pt.U, Pt.locs, Pt.cells, Pt.slots] at X120 l120 y120 z120 st120 hQ120
        subst l120 y120 z120
        obtain ⟨rfl, N120q, e120⟩ := hQ120
        have N121 := Fr.app N45 N120q
        refine own_by (T' := T120) (g' := (mkF m 120 #[.val (.int p0), .val (.int p1), .val (.int p2), .val (.int p3), .val (.int p4), .val (.int p5), .val (.ref x_2), .val (.ref x_7), .val (.int sv), .val (.ref b13), .val (.ref b29), .val (.ref oy), .unset, .unset, .unset, .unset, .unset] [(.ref wO)])) st120 ?_
        have kj122 : Keep hp45 hp45 [] := (Keep.refl hp45 [])
        have f123 := GS.2.2.2.2.2.2.1.ext oo47.2
        exact J49 T120 _ hp45 (X120.more (by decide) (by decide)) e120 kj122 N121 wO f123 trivial
      · refine own_by (T' := T45) (g' := (mkF m 102 #[.val (.int p0), .val (.int p1), .val (.int p2), .val (.int p3), .val (.int p4), .val (.int p5), .val (.ref x_2), .val (.ref x_7), .val (.int sv), .val (.ref b13), .val (.ref b29), .val (.ref oy), .unset, .unset, .unset, .unset, .unset] [])) (fun _ kt_ => XS.ifNo X45.here hx rfl (hb hby at_99) rfl (XT.i0_eq_f hc119) kt_) ?_
        obtain ⟨T124, h124, X124, e124, E124, A124, D124, -, st124⟩ := newO X45 hx hZ hown (hw _ (List.mem_of_getElem? (i := 86) rfl)) (hw _ (List.mem_of_getElem? (i := 87) rfl)) (hw _ (List.mem_of_getElem? (i := 88) rfl)) e45 (g := (mkF m 102 #[.val (.int p0), .val (.int p1), .val (.int p2), .val (.int p3), .val (.int p4), .val (.int p5), .val (.ref x_2), .val (.ref x_7), .val (.int sv), .val (.ref b13), .val (.ref b29), .val (.ref oy), .unset, .unset, .unset, .unset, .unset] [])) rfl (hb hby at_102) (by decide) (by decide)
        obtain ⟨b124, g124⟩ : ∃ z, z = hp45.size := ⟨_, rfl⟩
        rw [← g124] at A124 D124 st124
        have K125 : Keep hp45 h124 [] := own_kext E124
        have zzK125 : hp45.size ≤ h124.size := K125.1
        have oo126 : Old Z n0 h124 := oo47.keep K125 all0
        have kt127 : Keep h0 h124 [] := kt48.trans K125 all0
        have lab124 : b124 < h124.size := A124.lt
        have f128 : Fld Z h124 b124 "com/example/vestledger/vestledger/plan/PaymentElection" "form" "Lcom/example/vestledger/vestledger/plan/PaymentForm;" .null := D124 (Or.inr (hw _ (List.mem_of_getElem? (i := 94) rfl))) (ty := (.object "com/example/vestledger/vestledger/plan/PaymentForm")) (by decide)
        have f129 : Fld Z h124 b124 "com/example/vestledger/vestledger/plan/PaymentElection" "payments" "I" (.int (0 : Int32)) := D124 (Or.inr (hw _ (List.mem_of_getElem? (i := 96) rfl))) (ty := .int) (by decide)
        refine own_by (T' := T124) (g' := (mkF m 105 #[.val (.int p0), .val (.int p1), .val (.int p2), .val (.int p3), .val (.int p4), .val (.int p5), .val (.ref x_2), .val (.ref x_7), .val (.int sv), .val (.ref b13), .val (.ref b29), .val (.ref oy), .unset, .unset, .unset, .unset, .unset] [(.ref b124)])) st124 ?_
        refine own_by (T' := T124) (g' := (mkF m 106 #[.val (.int p0), .val (.int p1), .val (.int p2), .val (.int p3), .val (.int p4), .val (.int p5), .val (.ref x_2), .val (.ref x_7), .val (.int sv), .val (.ref b13), .val (.ref b29), .val (.ref oy), .unset, .unset, .unset, .unset, .unset] [(.ref b124), (.ref b124)])) (fun _ kt_ => XS.dup X124.here hx rfl (hb hby at_105) rfl rfl kt_) ?_
        refine own_by (T' := T124) (g' := (mkF m 107 #[.val (.int p0), .val (.int p1), .val (.int p2), .val (.int p3), .val (.int p4), .val (.int p5), .val (.ref x_2), .val (.ref x_7), .val (.int sv), .val (.ref b13), .val (.ref b29), .val (.ref oy), .unset, .unset, .unset, .unset, .unset] [.null, (.ref b124), (.ref b124)])) (fun _ kt_ => XS.aconstNull X124.here hx rfl (hb hby at_106) kt_) ?_
        refine own_by (T' := T124) (g' := (mkF m 108 #[.val (.int p0), .val (.int p1), .val (.int p2), .val (.int p3), .val (.int p4), .val (.int p5), .val (.ref x_2), .val (.ref x_7), .val (.int sv), .val (.ref b13), .val (.ref b29), .val (.ref oy), .unset, .unset, .unset, .unset, .unset] [(.int p2), .null, (.ref b124), (.ref b124)])) (fun _ kt_ => XS.iloadN X124.here hx rfl (hb hby at_107) rfl kt_) ?_
        obtain ⟨_, _, ⟨T130, L130, k130, n130⟩, -, X130, ⟨Lc130, hQ130, l130, y130, z130⟩, st130⟩ := X124.specialBack hx (y := (⟨"com/example/vestledger/vestledger/plan/PaymentElection", "<init>", "(Lcom/example/vestledger/vestledger/plan/PaymentForm;I)V"⟩ : MethodName)) rfl hown (mvT hZ (hw _ (List.mem_of_getElem? (i := 89) rfl))) (mvT hZ (hw _ (List.mem_of_getElem? (i := 90) rfl))) (mvT hZ (hw _ (List.mem_of_getElem? (i := 91) rfl))) (by decide) (backOf (W := 1) (rmPI l Z a0 hw [] wC cC zC wO GS b124 p2 h124 n0 (by omega) oo126 A124 (by omega) f128 f129) hZ (hw _ (List.mem_of_getElem? (i := 91) rfl)) (hw _ (List.mem_of_getElem? (i := 88) rfl)) (by decide) (by decide)) (g := (mkF m 108 #[.val (.int p0), .val (.int p1), .val (.int p2), .val (.int p3), .val (.int p4), .val (.int p5), .val (.ref x_2), .val (.ref x_7), .val (.int sv), .val (.ref b13), .val (.ref b29), .val (.ref oy), .unset, .unset, .unset, .unset, .unset] [(.int p2), .null, (.ref b124), (.ref b124)])) rfl (by rw [hml]; rfl) (Steps.refl _) (a := b124) (argsL := [.null, (.int p2)]) (rest := [(.ref b124)]) (lenOf own_pd_18 rfl) rfl (by show 2 * 0 + _ ≤ _; exact Nat.le_of_eq rfl) (hb hby at_108) (fun _ _ => ⟨rfl, e124, (by decide : 11 + 0 ≤ _), (by decide : 32 + 0 ≤ _)⟩)
        dsimp only [Pt.U, Pt.locs, Pt.cells, Pt.slots] at X130 l130 y130 z130 st130 hQ130
        subst l130 y130 z130
        obtain ⟨rfl, N130q, K130, p130_0, p130_1⟩ := hQ130
        have N131 := Fr.app N45 N130q
        have zzK130 : h124.size ≤ T130.heap.size := K130.1
        have oo132 : Old Z n0 T130.heap := oo126.keep K130 (allS (by omega : n0 ≤ b124) all0)
        have kt133 : Keep h0 T130.heap [] := kt127.trans K130 (allS (Or.inr (by omega : h0.size ≤ b124)) all0)
        refine own_by (T' := T130) (g' := (mkF m 111 #[.val (.int p0), .val (.int p1), .val (.int p2), .val (.int p3), .val (.int p4), .val (.int p5), .val (.ref x_2), .val (.ref x_7), .val (.int sv), .val (.ref b13), .val (.ref b29), .val (.ref oy), .unset, .unset, .unset, .unset, .unset] [(.ref b124)])) (fun _ kt_ => st130.trans kt_) ?_
        obtain ⟨_, _, ⟨T134, L134, k134, n134⟩, -, X134, ⟨Lc134, hQ134, l134, y134, z134⟩, st134⟩ := Jvm.LawKit.callS X130 hx (y := (⟨"java/util/Optional", "of", "(Ljava/lang/Object;)Ljava/util/Optional;"⟩ : MethodName)) hown (mvT hZ (hw _ (List.mem_of_getElem? (i := 70) rfl))) (mvT hZ (hw _ (List.mem_of_getElem? (i := 71) rfl))) (mvT hZ (hw _ (List.mem_of_getElem? (i := 39) rfl))) (mvT hZ (hw _ (List.mem_of_getElem? (i := 72) rfl))) (by decide) (backOf (W := 0) (rmOf l Z a0 hw [] wC cC zC wO GS b124 T130.heap n0 (by omega) oo132 ) hZ (hw _ (List.mem_of_getElem? (i := 72) rfl)) (hw _ (List.mem_of_getElem? (i := 39) rfl)) (by decide) (by decide)) (g := (mkF m 111 #[.val (.int p0), .val (.int p1), .val (.int p2), .val (.int p3), .val (.int p4), .val (.int p5), .val (.ref x_2), .val (.ref x_7), .val (.int sv), .val (.ref b13), .val (.ref b29), .val (.ref oy), .unset, .unset, .unset, .unset, .unset] [(.ref b124)])) rfl (by rw [hml]; rfl) (argsL := [(.ref b124)]) (rest := []) (lenOf own_pd_9 rfl) rfl (by show 2 * 0 + _ ≤ _; exact Nat.le_of_eq rfl) (hb hby at_111) (fun _ _ => ⟨rfl, rfl, (by decide : 11 + 1 ≤ _), (by decide : 32 + 1 ≤ _)⟩)
        dsimp only [Pt.U, Pt.locs, Pt.cells, Pt.slots] at X134 l134 y134 z134 st134 hQ134
        subst l134 y134 z134
        obtain ⟨b_135, rfl, N134q, K134, p134_0, p134_1, p134_2⟩ := hQ134
        have N136 := Fr.app N131 N134q
        have gb_135 : T130.heap.size ≤ b_135 := p134_0
        have zzK134 : T130.heap.size ≤ T134.heap.size := K134.1
        have oo137 : Old Z n0 T134.heap := oo132.keep K134 all0
        have kt138 : Keep h0 T134.heap [] := kt133.trans K134 all0
        refine own_by (T' := T134) (g' := (mkF m 114 #[.val (.int p0), .val (.int p1), .val (.int p2), .val (.int p3), .val (.int p4), .val (.int p5), .val (.ref x_2), .val (.ref x_7), .val (.int sv), .val (.ref b13), .val (.ref b29), .val (.ref oy), .unset, .unset, .unset, .unset, .unset] [(.ref b_135)])) st134 ?_
        refine own_by (T' := T134) (g' := (mkF m 120 #[.val (.int p0), .val (.int p1), .val (.int p2), .val (.int p3), .val (.int p4), .val (.int p5), .val (.ref x_2), .val (.ref x_7), .val (.int sv), .val (.ref b13), .val (.ref b29), .val (.ref oy), .unset, .unset, .unset, .unset, .unset] [(.ref b_135)])) (fun _ kt_ => XS.goto X134.here hx rfl (pc0 := 114) (pc' := 120) rfl (hb hby at_114) (by decide) (by decide) kt_) ?_
        have kj139 : Keep hp45 T134.heap [] := ((((Keep.refl hp45 []).trans K125 all0).trans K130 (allS (Or.inr (by omega : hp45.size ≤ b124)) all0)).trans K134 all0)
        exact J49 T134 _ T134.heap X134 rfl kj139 N136 b_135 p134_1 trivial
    refine own_by (T' := T41) (g' := (mkF m 76 #[.val (.int p0), .val (.int p1), .val (.int p2), .val (.int p3), .val (.int p4), .val (.int p5), .val (.ref x_2), .val (.ref x_7), .val (.int sv), .val (.ref b13), .val (.ref b29), .unset, .unset, .unset, .unset, .unset, .unset] [(.int p1)])) (fun _ kt_ => XS.iloadN X41.here hx rfl (hb hby at_75) rfl kt_) ?_
    refine own_by (T' := T41) (g' := (mkF m 77 #[.val (.int p0), .val (.int p1), .val (.int p2), .val (.int p3), .val (.int p4), .val (.int p5), .val (.ref x_2), .val (.ref x_7), .val (.int sv), .val (.ref b13), .val (.ref b29), .unset, .unset, .unset, .unset, .unset, .unset] [(.int (1 : Int32)), (.int p1)])) (fun _ kt_ => XS.iconst X41.here hx rfl (hb hby at_76) kt_) ?_
    refine own_by (T' := T41) (g' := (mkF m 78 #[.val (.int p0), .val (.int p1), .val (.int p2), .val (.int p3), .val (.int p4), .val (.int p5), .val (.ref x_2), .val (.ref x_7), .val (.int sv), .val (.ref b13), .val (.ref b29), .unset, .unset, .unset, .unset, .unset, .unset] [(.int (p1 &&& (1 : Int32)))])) (fun _ kt_ => XS.iand X41.here hx rfl (hb hby at_77) rfl kt_) ?_
    by_cases hc140 : (p1 &&& (1 : Int32)) = (0 : Int32)
    · refine own_by (T' := T41) (g' := (mkF m 91 #[.val (.int p0), .val (.int p1), .val (.int p2), .val (.int p3), .val (.int p4), .val (.int p5), .val (.ref x_2), .val (.ref x_7), .val (.int sv), .val (.ref b13), .val (.ref b29), .unset, .unset, .unset, .unset, .unset, .unset] [])) (fun _ kt_ => XS.ifYes X41.here hx rfl (pc0 := 78) (pc' := 91) rfl (hb hby at_78) rfl (XT.i0_eq_t hc140) (by decide) (by decide) kt_) ?_
      obtain ⟨_, _, ⟨T141, L141, k141, n141⟩, -, X141, ⟨Lc141, hQ141, l141, y141, z141⟩, st141⟩ := Jvm.LawKit.callS X41 hx (y := (⟨"java/util/Optional", "empty", "()Ljava/util/Optional;"⟩ : MethodName)) hown (mvT hZ (hw _ (List.mem_of_getElem? (i := 37) rfl))) (mvT hZ (hw _ (List.mem_of_getElem? (i := 38) rfl))) (mvT hZ (hw _ (List.mem_of_getElem? (i := 39) rfl))) (mvT hZ (hw _ (List.mem_of_getElem? (i := 40) rfl))) (by decide) (backOf (W := 0) (rmOE l Z a0 hw [] wC cC zC wO GS  T41.heap n0 (by omega) oo43 ) hZ (hw _ (List.mem_of_getElem? (i := 40) rfl)) (hw _ (List.mem_of_getElem? (i := 39) rfl)) (by decide) (by decide)) (g := (mkF m 91 #[.val (.int p0), .val (.int p1), .val (.int p2), .val (.int p3), .val (.int p4), .val (.int p5), .val (.ref x_2), .val (.ref x_7), .val (.int sv), .val (.ref b13), .val (.ref b29), .unset, .unset, .unset, .unset, .unset, .unset] [])) rfl (by rw [hml]; rfl) (argsL := []) (rest := []) (lenOf own_pd_13 rfl) rfl (by show 2 * 0 + _ ≤ _; exact Nat.le_of_eq rfl) (hb hby at_91) (fun _ _ => ⟨rfl, rfl, (by decide : 8 + 0 ≤ _), (by decide : 28 + 0 ≤ _)⟩)
      dsimp only [Pt.U, Pt.locs, Pt.cells, Pt.slots] at X141 l141 y141 z141 st141 hQ141
      subst l141 y141 z141
      obtain ⟨rfl, N141q, e141⟩ := hQ141
      have N142 := Fr.app N42 N141q
      refine own_by (T' := T141) (g' := (mkF m 94 #[.val (.int p0), .val (.int p1), .val (.int p2), .val (.int p3), .val (.int p4), .val (.int p5), .val (.ref x_2), .val (.ref x_7), .val (.int sv), .val (.ref b13), .val (.ref b29), .unset, .unset, .unset, .unset, .unset, .unset] [(.ref wO)])) st141 ?_
      have kj143 : Keep T41.heap T41.heap [] := (Keep.refl T41.heap [])
      have f144 := GS.2.2.2.2.2.2.1.ext oo43.2
      exact J45 T141 _ T41.heap (X141.more (by decide) (by decide)) e141 kj143 N142 wO f144 trivial
    · refine own_by (T' := T41) (g' := (mkF m 81 #[.val (.int p0), .val (.int p1), .val (.int p2), .val (.int p3), .val (.int p4), .val (.int p5), .val (.ref x_2), .val (.ref x_7), .val (.int sv), .val (.ref b13), .val (.ref b29), .unset, .unset, .unset, .unset, .unset, .unset] [])) (fun _ kt_ => XS.ifNo X41.here hx rfl (hb hby at_78) rfl (XT.i0_eq_f hc140) kt_) ?_
      refine own_by (T' := T41) (g' := (mkF m 82 #[.val (.int p0), .val (.int p1), .val (.int p2), .val (.int p3), .val (.int p4), .val (.int p5), .val (.ref x_2), .val (.ref x_7), .val (.int sv), .val (.ref b13), .val (.ref b29), .unset, .unset, .unset, .unset, .unset, .unset] [(.int p0)])) (fun _ kt_ => XS.iloadN X41.here hx rfl (hb hby at_81) rfl kt_) ?_
      obtain ⟨_, _, ⟨T145, L145, k145, n145⟩, -, X145, ⟨Lc145, hQ145, l145, y145, z145⟩, st145⟩ := Jvm.LawKit.callS X41 hx (y := (⟨"java/lang/Integer", "valueOf", "(I)Ljava/lang/Integer;"⟩ : MethodName)) hown (mvT hZ (hw _ (List.mem_of_getElem? (i := 63) rfl))) (mvT hZ (hw _ (List.mem_of_getElem? (i := 64) rfl))) (mvT hZ (hw _ (List.mem_of_getElem? (i := 65) rfl))) (mvT hZ (hw _ (List.mem_of_getElem? (i := 66) rfl))) (by decide) (backOf (W := 0) (rmValI l Z a0 hw [] wC cC zC wO GS p0 T41.heap n0 (by omega) oo43 ) hZ (hw _ (List.mem_of_getElem? (i := 66) rfl)) (hw _ (List.mem_of_getElem? (i := 65) rfl)) (by decide) (by decide)) (g := (mkF m 82 #[.val (.int p0), .val (.int p1), .val (.int p2), .val (.int p3), .val (.int p4), .val (.int p5), .val (.ref x_2), .val (.ref x_7), .val (.int sv), .val (.ref b13), .val (.ref b29), .unset, .unset, .unset, .unset, .unset, .unset] [(.int p0)])) rfl (by rw [hml]; rfl) (argsL := [(.int p0)]) (rest := []) (lenOf own_pd_19 rfl) rfl (by show 2 * 0 + _ ≤ _; exact Nat.le_of_eq rfl) (hb hby at_82) (fun _ _ => ⟨rfl, rfl, (by decide : 8 + 1 ≤ _), (by decide : 28 + 1 ≤ _)⟩)
      dsimp only [Pt.U, Pt.locs, Pt.cells, Pt.slots] at X145 l145 y145 z145 st145 hQ145
      subst l145 y145 z145
      obtain ⟨b_146, rfl, N145q, K145, p145_0, p145_1⟩ := hQ145
      have N147 := Fr.app N42 N145q
      have zzK145 : T41.heap.size ≤ T145.heap.size := K145.1
      have oo148 : Old Z n0 T145.heap := oo43.keep K145 all0
      have kt149 : Keep h0 T145.heap [] := kt44.trans K145 all0
      refine own_by (T' := T145) (g' := (mkF m 85 #[.val (.int p0), .val (.int p1), .val (.int p2), .val (.int p3), .val (.int p4), .val (.int p5), .val (.ref x_2), .val (.ref x_7), .val (.int sv), .val (.ref b13), .val (.ref b29), .unset, .unset, .unset, .unset, .unset, .unset] [(.ref b_146)])) st145 ?_
      obtain ⟨_, _, ⟨T150, L150, k150, n150⟩, -, X150, ⟨Lc150, hQ150, l150, y150, z150⟩, st150⟩ := Jvm.LawKit.callS X145 hx (y := (⟨"java/util/Optional", "of", "(Ljava/lang/Object;)Ljava/util/Optional;"⟩ : MethodName)) hown (mvT hZ (hw _ (List.mem_of_getElem? (i := 70) rfl))) (mvT hZ (hw _ (List.mem_of_getElem? (i := 71) rfl))) (mvT hZ (hw _ (List.mem_of_getElem? (i := 39) rfl))) (mvT hZ (hw _ (List.mem_of_getElem? (i := 72) rfl))) (by decide) (backOf (W := 0) (rmOf l Z a0 hw [] wC cC zC wO GS b_146 T145.heap n0 (by omega) oo148 ) hZ (hw _ (List.mem_of_getElem? (i := 72) rfl)) (hw _ (List.mem_of_getElem? (i := 39) rfl)) (by decide) (by decide)) (g := (mkF m 85 #[.val (.int p0), .val (.int p1), .val (.int p2), .val (.int p3), .val (.int p4), .val (.int p5), .val (.ref x_2), .val (.ref x_7), .val (.int sv), .val (.ref b13), .val (.ref b29), .unset, .unset, .unset, .unset, .unset, .unset] [(.ref b_146)])) rfl (by rw [hml]; rfl) (argsL := [(.ref b_146)]) (rest := []) (lenOf own_pd_9 rfl) rfl (by show 2 * 0 + _ ≤ _; exact Nat.le_of_eq rfl) (hb hby at_85) (fun _ _ => ⟨rfl, rfl, (by decide : 9 + 1 ≤ _), (by decide : 29 + 1 ≤ _)⟩)
      dsimp only [Pt.U, Pt.locs, Pt.cells, Pt.slots] at X150 l150 y150 z150 st150 hQ150
      subst l150 y150 z150
      obtain ⟨b_151, rfl, N150q, K150, p150_0, p150_1, p150_2⟩ := hQ150
      have N152 := Fr.app N147 N150q
      have gb_151 : T145.heap.size ≤ b_151 := p150_0
      have zzK150 : T145.heap.size ≤ T150.heap.size := K150.1
      have oo153 : Old Z n0 T150.heap := oo148.keep K150 all0
      have kt154 : Keep h0 T150.heap [] := kt149.trans K150 all0
      refine own_by (T' := T150) (g' := (mkF m 88 #[.val (.int p0), .val (.int p1), .val (.int p2), .val (.int p3), .val (.int p4), .val (.int p5), .val (.ref x_2), .val (.ref x_7), .val (.int sv), .val (.ref b13), .val (.ref b29), .unset, .unset, .unset, .unset, .unset, .unset] [(.ref b_151)])) st150 ?_
      refine own_by (T' := T150) (g' := (mkF m 94 #[.val (.int p0), .val (.int p1), .val (.int p2), .val (.int p3), .val (.int p4), .val (.int p5), .val (.ref x_2), .val (.ref x_7), .val (.int sv), .val (.ref b13), .val (.ref b29), .unset, .unset, .unset, .unset, .unset, .unset] [(.ref b_151)])) (fun _ kt_ => XS.goto X150.here hx rfl (pc0 := 88) (pc' := 94) rfl (hb hby at_88) (by decide) (by decide) kt_) ?_
      have kj155 : Keep T41.heap T150.heap [] := (((Keep.refl T41.heap []).trans K145 all0).trans K150 all0)
      exact J45 T150 _ T150.heap X150 rfl kj155 N152 b_151 p150_1 trivial
  refine own_by (T' := T6) (g' := (mkF m 18 #[.val (.int p0), .val (.int p1), .val (.int p2), .val (.int p3), .val (.int p4), .val (.int p5), .val (.ref x_2), .val (.ref x_7), .unset, .unset, .unset, .unset, .unset, .unset, .unset, .unset, .unset] [(.int p1)])) (fun _ kt_ => XS.iloadN X6.here hx rfl (hb hby at_17) rfl kt_) ?_
  refine own_by (T' := T6) (g' := (mkF m 20 #[.val (.int p0), .val (.int p1), .val (.int p2), .val (.int p3), .val (.int p4), .val (.int p5), .val (.ref x_2), .val (.ref x_7), .unset, .unset, .unset, .unset, .unset, .unset, .unset, .unset, .unset] [(.int (8 : Int32)), (.int p1)])) (fun _ kt_ => XS.bipush X6.here hx rfl (hb hby at_18) kt_) ?_
  refine own_by (T' := T6) (g' := (mkF m 21 #[.val (.int p0), .val (.int p1), .val (.int p2), .val (.int p3), .val (.int p4), .val (.int p5), .val (.ref x_2), .val (.ref x_7), .unset, .unset, .unset, .unset, .unset, .unset, .unset, .unset, .unset] [(.int (p1 &&& (8 : Int32)))])) (fun _ kt_ => XS.iand X6.here hx rfl (hb hby at_20) rfl kt_) ?_
  by_cases hc156 : (p1 &&& (8 : Int32)) = (0 : Int32)
  · refine own_by (T' := T6) (g' := (mkF m 28 #[.val (.int p0), .val (.int p1), .val (.int p2), .val (.int p3), .val (.int p4), .val (.int p5), .val (.ref x_2), .val (.ref x_7), .unset, .unset, .unset, .unset, .unset, .unset, .unset, .unset, .unset] [])) (fun _ kt_ => XS.ifYes X6.here hx rfl (pc0 := 21) (pc' := 28) rfl (hb hby at_21) rfl (XT.i0_eq_t hc156) (by decide) (by decide) kt_) ?_
    refine own_by (T' := T6) (g' := (mkF m 29 #[.val (.int p0), .val (.int p1), .val (.int p2), .val (.int p3), .val (.int p4), .val (.int p5), .val (.ref x_2), .val (.ref x_7), .unset, .unset, .unset, .unset, .unset, .unset, .unset, .unset, .unset] [(.int (0 : Int32))])) (fun _ kt_ => XS.iconst X6.here hx rfl (hb hby at_28) kt_) ?_
    exact J11 T6 _  X6 rfl  N8 (0 : Int32)  trivial
  · refine own_by (T' := T6) (g' := (mkF m 24 #[.val (.int p0), .val (.int p1), .val (.int p2), .val (.int p3), .val (.int p4), .val (.int p5), .val (.ref x_2), .val (.ref x_7), .unset, .unset, .unset, .unset, .unset, .unset, .unset, .unset, .unset] [])) (fun _ kt_ => XS.ifNo X6.here hx rfl (hb hby at_21) rfl (XT.i0_eq_f hc156) kt_) ?_
    refine own_by (T' := T6) (g' := (mkF m 25 #[.val (.int p0), .val (.int p1), .val (.int p2), .val (.int p3), .val (.int p4), .val (.int p5), .val (.ref x_2), .val (.ref x_7), .unset, .unset, .unset, .unset, .unset, .unset, .unset, .unset, .unset] [(.int (1 : Int32))])) (fun _ kt_ => XS.iconst X6.here hx rfl (hb hby at_24) kt_) ?_
    refine own_by (T' := T6) (g' := (mkF m 29 #[.val (.int p0), .val (.int p1), .val (.int p2), .val (.int p3), .val (.int p4), .val (.int p5), .val (.ref x_2), .val (.ref x_7), .unset, .unset, .unset, .unset, .unset, .unset, .unset, .unset, .unset] [(.int (1 : Int32))])) (fun _ kt_ => XS.goto X6.here hx rfl (pc0 := 25) (pc' := 29) rfl (hb hby at_25) (by decide) (by decide) kt_) ?_
    exact J11 T6 _  X6 rfl  N8 (1 : Int32)  trivial
set_option maxRecDepth 65536 in
set_option maxHeartbeats 40000000 in
theorem comes_1 {Post : Tables → Env → Array Value → State → Outcome → State → Prop} (hpost : ∀ tb e args s v u, (limb_1_1.after args s (.returned v) u = true ∧ limb_1_2.after args s (.returned v) u = true ∧ True) → FrameEnd s (.returned v) u (Jvm.fieldLocs frame_1_writes args s ++ Jvm.arrayLocs frame_1_arrays args s ++ Jvm.staticLocs frame_1_statics s) 40 192 → Post tb e args s (.returned v) u) :
    ArmFor flags0 classFile x code maxLocals ret World_1 tables_1 room_1 Calls_1 rest_1 Pre_1 Post := by
  intro l hfl _ _ p e ha hc hk s m args below hf hA hF happ hP
  obtain ⟨hcalls, hrest, hpre⟩ := hP
  obtain ⟨-, -, -, hnamed, -, -, -, hat⟩ := (Spec.applies_iff hf).mp happ
  obtain ⟨hg, hn⟩ := and_e (Cond.before_iff.mp (show (Jvm.Cond.and given_1 narrow_1).before args s = true from hpre))
  obtain ⟨g1a, g1b⟩ := and_e hg
  obtain ⟨g2a, g2b⟩ := and_e g1b
  obtain ⟨g3a, g3b⟩ := and_e g2b
  obtain ⟨g4a, g4b⟩ := and_e g3b
  obtain ⟨g5a, g5b⟩ := and_e g4b
  obtain ⟨g6a, g6b⟩ := and_e g5b
  obtain ⟨w0, w1, w2, w3, w4, w5, rfl⟩ : ∃ w0 w1 w2 w3 w4 w5 : Value, args = #[w0, w1, w2, w3, w4, w5] := by
    have hs : args.size = 6 := by simpa [Cond.value, given_1] using g1a
    obtain ⟨L⟩ := args
    match L, hs with
    | [w0, w1, w2, w3, w4, w5], _ => exact ⟨w0, w1, w2, w3, w4, w5, rfl⟩
  have hw := fun d (hd : d ∈ tables_1) => atoms_spec (ws := Jvm.Cond.code x code maxLocals ret :: tables_1) hat d (List.mem_cons_of_mem _ hd)
  have hfit : Fit s := fun {y c} hc i hi => by
    obtain ⟨ha, rfl⟩ := Array.getElem?_eq_some_iff.mp hc
    have q := List.all_eq_true.mp ((Array.all_eq_true_iff_forall_mem.mp hF) _ (Array.getElem_mem ha)) i (List.mem_range.mpr hi)
    simpa [Array.getElem?_eq_getElem hi] using q
  obtain ⟨i0, ei0⟩ := is_v g2a
  obtain rfl : w0 = (.int i0) := Option.some.inj ei0
  obtain ⟨i1, ei1⟩ := is_v g3a
  obtain rfl : w1 = (.int i1) := Option.some.inj ei1
  obtain ⟨i2, ei2⟩ := is_v g4a
  obtain rfl : w2 = (.int i2) := Option.some.inj ei2
  obtain ⟨i3, ei3⟩ := is_v g5a
  obtain rfl : w3 = (.int i3) := Option.some.inj ei3
  obtain ⟨i4, ei4⟩ := is_v g6a
  obtain rfl : w4 = (.int i4) := Option.some.inj ei4
  obtain ⟨i5, ei5⟩ := is_v g6b
  obtain rfl : w5 = (.int i5) := Option.some.inj ei5
  obtain ⟨hsets, hown0⟩ := atoms_of _ (rest_1_c_eq ▸ (show rest_1_c.before _ s = true from hrest))
  obtain ⟨wO, ev_wO⟩ := exa_v (Cond.before_iff.mp (hsets _ (List.mem_of_getElem? (i := 11) rfl)))
  have sta_wO := Sta.start ev_wO (Or.inl (Cond.before_iff.mpr (Cond.before_iff.mp (hsets _ (List.mem_of_getElem? (i := 10) rfl)))))
  have ev_high := eqv_i (Term.int_eval (127 : Int32)) (Cond.before_iff.mp (hsets _ (List.mem_of_getElem? (i := 16) rfl)))
  have sta_high := Sta.start ev_high (Or.inr ⟨(hw _ (List.mem_of_getElem? (i := 68) rfl)), Cond.before_iff.mpr (Cond.before_iff.mp (hsets _ (List.mem_of_getElem? (i := 13) rfl)))⟩)
  obtain ⟨wC, ev_wC⟩ := arr_v (Cond.before_iff.mp (hsets _ (List.mem_of_getElem? (i := 17) rfl)))
  have sta_wC := Sta.start ev_wC (Or.inr ⟨(hw _ (List.mem_of_getElem? (i := 68) rfl)), Cond.before_iff.mpr (Cond.before_iff.mp (hsets _ (List.mem_of_getElem? (i := 15) rfl)))⟩)
  obtain ⟨cC, AC⟩ := Arr.start ev_wC (Cond.before_iff.mp (hsets _ (List.mem_of_getElem? (i := 17) rfl)))
  obtain ⟨lC1, lC2⟩ := own_len ev_wC AC (Cond.before_iff.mp (hsets _ (List.mem_of_getElem? (i := 19) rfl)))
  have bxi : Bxs s wC cC "java/lang/Integer" "I" (256 : Int32) (fun j => Value.int (j - (128 : Int32))) := Bxs.start (fun idx => (show _ = _ from ev_wC)) AC lC1 lC2 (by decide) (Cond.before_iff.mp (hsets _ (List.mem_of_getElem? (i := 20) rfl))) (fun X j nn hq => eqv_i (y := j - (128 : Int32)) (own_bxF nn) hq)
  obtain ⟨zC, ev_zC⟩ := is_v (Cond.before_iff.mp (hsets _ (List.mem_of_getElem? (i := 1) rfl)))
  have sta_zC := Sta.start ev_zC (Or.inl (Cond.before_iff.mpr (Cond.before_iff.mp (hsets _ (List.mem_of_getElem? (i := 0) rfl)))))
  have ncmp : ¬ zC = (0 : Int32) := gotF (Cond.eq_ints ev_zC (Term.int_eval (0 : Int32))) (not_v (Cond.before_iff.mp (hsets _ (List.mem_of_getElem? (i := 2) rfl))))
  have fld_wO := Fld.start ((fld_at ev_wO).symm.trans (null_v (Cond.before_iff.mp (hsets _ (List.mem_of_getElem? (i := 12) rfl)))))
  have exa_wO := Exa.start ev_wO (Cond.before_iff.mp (hsets _ (List.mem_of_getElem? (i := 11) rfl)))
  have GS : Glob s wC cC zC wO := ⟨sta_high, sta_wC, bxi, sta_zC, ncmp, sta_wO, exa_wO, fld_wO⟩
  obtain ⟨n, o, h1, h2, h3, _, L, rfl, ⟨rfl, N⟩, hq⟩ := rm0 l s _ hw tables_1 wC cC zC wO GS i0 i1 i2 i3 i4 i5 s.heap s.heap.size (Nat.le_refl _) (Old.start s) p e ha hc hk s m _ below hf ((Spec.applies_iff_loose hf).mp happ).1 ⟨rfl, State.Warmed39.refl s, rfl⟩ trivial
  refine ⟨n, _, h1, h2, h3, hpost _ _ _ _ _ _ ⟨Cond.after_iff.mpr rfl, Cond.after_iff.mpr (eq_i res_at (Term.int_eval (1)) rfl), trivial⟩ ⟨hq.1, hq.2.1, (hq.2.2.sift fun y hy => Or.inr (N y hy)).mono (by decide) (by decide)⟩⟩
theorem main_1_1 : Claimed_1_1 := comes_1 fun _ _ _ _ _ _ h hF => ⟨h.1, hF⟩
theorem main_1_2 : Claimed_1_2 := comes_1 fun _ _ _ _ _ _ h hF => ⟨h.2.1, hF⟩
end Jvm.Pilot.@@N@@
namespace Jvm.Pilot.@@N@@
open Jvm Jvm.ClassFile Sem Op Lib Jvm.Free Jvm.Stand Jvm.Pilot.@@N@@.Jvm.D
/-! MADE BY PROGRAM (witnessworld.py) out of the Statement's table words and the real class files: 29 classes; the members and pool entries that the words name. The judged class is class 1, her method 2. -/
namespace start1
open Jvm.ClassFile
def u (s : String) : CpInfo := .utf8 (stringToUtf16 s)
/-- a pool by its gaps: so many unusable entries, then the entry; so many at the end -/
def gap : Nat → List CpInfo → List CpInfo
  | 0, r => r
  | n + 1, r => .unusable :: gap n r
def poolList (es : List (Nat × CpInfo)) (last : Nat) : List CpInfo := es.foldr (fun e r => gap e.1 (e.2 :: r)) (gap last [])
def pool (es : List (Nat × CpInfo)) (last : Nat) : Array CpInfo := ⟨poolList es last⟩
def fileOf (pool : Array CpInfo) (this : Nat) (attrs : Array Attribute := #[]) (ms : Array MethodInfo := #[]) (fl : Nat := 33) (sup : Nat := 0) (ifs : Array Nat := #[]) (fds : Array FieldInfo := #[]) : ClassFile where
  minorVersion := 0
  majorVersion := 65
  constantPool := pool
  accessFlags := fl
  thisClass := this
  superClass := sup
  interfaces := ifs
  fields := fds
  methods := ms
  attributes := attrs
def plain (name : String) (sup : Option ClassId) : Class where
  name := name
  kind := .ordinary
  loader := none
  accessFlags := 33
  super := sup
  interfaces := #[]
  cf := none
  fields := #[]
  methods := #[]
  instanceTypes := #[]
  staticTypes := #[]
  resolved := #[]
  callSites := []
  init := .initialized
  statics := none
  mirror := none

def pool0 : Array CpInfo := pool [(5, u "<init>"), (0, u "()V"), (1, .class_ 10), (1, u "java/lang/Object")] 113

def k0c0 : Code := { maxStack := 0, maxLocals := 1, code := object_method_1_code, exceptionTable := #[], attributes := #[] }
def k0m0 : Method := { name := "<init>", desc := "()V", sig := { parameters := [], returnType := none }, accessFlags := 1, code := some k0c0 }
/-- java/lang/Object -/
def k0 : Class := { plain "java/lang/Object" none with
  accessFlags := 33
  interfaces := #[]
  cf := some (fileOf pool0 8 #[] #[{ accessFlags := 1, nameIndex := 5, descriptorIndex := 6, attributes := #[] }] 33 0 #[] #[])
  fields := #[]
  methods := #[k0m0]
  instanceTypes := #[]
  staticTypes := #[]
  resolved := Array.replicate 124 none
  statics := none }

def pool1 : Array CpInfo := pool [(2, .class_ 4), (1, u "java/lang/Object"), (0, u "<init>"), (0, u "()V"), (0, .class_ 8), (0, u "java/lang/String"), (0, .methodref 7 10), (0, .nameAndType 5 11), (0, u "([C)V"), (0, .methodref 13 14), (0, .class_ 15), (0, .nameAndType 16 17), (0, u "com/example/vestledger/vestledger/plan/PartOfCompanyStockPinLaw"), (0, u "two"), (0, u "(I)Ljava/lang/String;"), (0, .class_ 19), (0, u "com/example/vestledger/vestledger/plan/Fund"), (0, .methodref 21 22), (0, .class_ 23), (0, .nameAndType 24 25), (0, u "java/util/Optional"), (0, u "empty"), (0, u "()Ljava/util/Optional;"), (0, .methodref 18 27), (0, .nameAndType 5 28), (0, u "(ILjava/lang/String;Ljava/lang/String;Ljava/util/Optional;ZI)V"), (0, .methodref 30 31), (0, .class_ 32), (0, .nameAndType 33 34), (0, u "java/lang/Integer"), (0, u "valueOf"), (0, u "(I)Ljava/lang/Integer;"), (0, .methodref 21 36), (0, .nameAndType 37 38), (0, u "of"), (0, u "(Ljava/lang/Object;)Ljava/util/Optional;"), (0, .class_ 40), (0, u "com/example/vestledger/vestledger/plan/PaymentElection"), (0, .methodref 39 42), (0, .nameAndType 5 43), (0, u "(Lcom/example/vestledger/vestledger/plan/PaymentForm;I)V"), (0, .class_ 45), (0, u "com/example/vestledger/vestledger/plan/Elections$Part"), (0, .methodref 44 47), (0, .nameAndType 5 48), (0, u "(Ljava/util/Optional;Ljava/util/Optional;Ljava/util/Optional;)V"), (0, .methodref 44 50), (0, .nameAndType 51 52), (0, u "ofCompanyStock"), (0, u "(Lcom/example/vestledger/vestledger/plan/Fund;)Lcom/example/vestledger/vestledger/plan/Elections$Part;"), (0, .methodref 44 54), (0, .nameAndType 55 25), (0, u "companyStock"), (0, .methodref 44 57), (0, .nameAndType 58 25), (0, u "planYear"), (0, .methodref 21 60), (0, .nameAndType 61 62), (0, u "equals"), (0, u "(Ljava/lang/Object;)Z"), (0, .methodref 44 64), (0, .nameAndType 65 25), (0, u "payment"), (0, .methodref 21 67), (0, .nameAndType 68 69), (0, u "isPresent"), (0, u "()Z"), (0, .methodref 21 71), (0, .nameAndType 72 73), (0, u "get"), (0, u "()Ljava/lang/Object;"), (0, .methodref 18 60), (2, u "law"), (0, u "(IIIIII)Z")] 7

def k1m0 : Method := { name := "<init>", desc := "()V", sig := { parameters := [], returnType := none }, accessFlags := 2, code := none }
def k1c1 : Code := { maxStack := 5, maxLocals := 2, code := method_2_code, exceptionTable := #[], attributes := #[] }
def k1m1 : Method := { name := "two", desc := "(I)Ljava/lang/String;", sig := { parameters := [.int], returnType := some (.object "java/lang/String") }, accessFlags := 10, code := some k1c1 }
def k1c2 : Code := { maxStack := 8, maxLocals := 17, code := code, exceptionTable := #[], attributes := #[] }
def k1m2 : Method := { name := "law", desc := "(IIIIII)Z", sig := { parameters := [.int, .int, .int, .int, .int, .int], returnType := some .boolean }, accessFlags := 9, code := some k1c2 }
/-- com/example/vestledger/vestledger/plan/PartOfCompanyStockPinLaw -/
def k1 : Class := { plain "com/example/vestledger/vestledger/plan/PartOfCompanyStockPinLaw" (some 0) with
  accessFlags := 49
  interfaces := #[]
  cf := some (fileOf pool1 13 #[] #[{ accessFlags := 2, nameIndex := 5, descriptorIndex := 6, attributes := #[] }, { accessFlags := 10, nameIndex := 16, descriptorIndex := 17, attributes := #[] }, { accessFlags := 9, nameIndex := 77, descriptorIndex := 78, attributes := #[] }] 49 2 #[] #[])
  fields := #[]
  methods := #[k1m0, k1m1, k1m2]
  instanceTypes := #[]
  staticTypes := #[]
  resolved := Array.replicate 86 none
  statics := none }

def pool2 : Array CpInfo := pool [(1, .class_ 2), (0, u "java/io/Serializable"), (0, .class_ 4), (0, u "java/lang/Object")] 2

/-- java/io/Serializable -/
def k2 : Class := { plain "java/io/Serializable" (some 0) with
  accessFlags := 1537
  interfaces := #[]
  cf := some (fileOf pool2 1 #[] #[] 1537 3 #[] #[])
  fields := #[]
  methods := #[]
  instanceTypes := #[]
  staticTypes := #[]
  resolved := Array.replicate 7 none
  statics := none }

def pool3 : Array CpInfo := pool [(1, .class_ 2), (0, u "java/lang/Comparable"), (0, .class_ 4), (0, u "java/lang/Object")] 7

/-- java/lang/Comparable -/
def k3 : Class := { plain "java/lang/Comparable" (some 0) with
  accessFlags := 1537
  interfaces := #[]
  cf := some (fileOf pool3 1 #[] #[] 1537 3 #[] #[])
  fields := #[]
  methods := #[]
  instanceTypes := #[]
  staticTypes := #[]
  resolved := Array.replicate 12 none
  statics := none }

def pool4 : Array CpInfo := pool [(2, .class_ 4), (1, u "java/lang/CharSequence"), (42, .class_ 48), (0, u "java/lang/CharSequence$1CodePointIterator"), (10, .class_ 60), (0, u "java/lang/CharSequence$1CharIterator"), (5, .class_ 67), (0, u "java/lang/Object")] 63

/-- java/lang/CharSequence -/
def k4 : Class := { plain "java/lang/CharSequence" (some 0) with
  accessFlags := 1537
  interfaces := #[]
  cf := some (fileOf pool4 2 #[.nestMembers #[47, 59]] #[] 1537 66 #[] #[])
  fields := #[]
  methods := #[]
  instanceTypes := #[]
  staticTypes := #[]
  resolved := Array.replicate 131 none
  statics := none }

def pool5 : Array CpInfo := pool [(1, .class_ 2), (0, u "java/lang/constant/Constable"), (0, .class_ 4), (0, u "java/lang/Object")] 6

/-- java/lang/constant/Constable -/
def k5 : Class := { plain "java/lang/constant/Constable" (some 0) with
  accessFlags := 1537
  interfaces := #[]
  cf := some (fileOf pool5 1 #[] #[] 1537 3 #[] #[])
  fields := #[]
  methods := #[]
  instanceTypes := #[]
  staticTypes := #[]
  resolved := Array.replicate 11 none
  statics := none }

def pool6 : Array CpInfo := pool [(1, .class_ 2), (0, u "java/lang/constant/ConstantDesc"), (0, .class_ 4), (0, u "java/lang/Object")] 32

/-- java/lang/constant/ConstantDesc -/
def k6 : Class := { plain "java/lang/constant/ConstantDesc" (some 0) with
  accessFlags := 1537
  interfaces := #[]
  cf := some (fileOf pool6 1 #[] #[] 1537 3 #[] #[])
  fields := #[]
  methods := #[]
  instanceTypes := #[]
  staticTypes := #[]
  resolved := Array.replicate 37 none
  statics := none }

def pool7 : Array CpInfo := pool [(1, .methodref 2 3), (0, .class_ 4), (0, .nameAndType 5 6), (0, u "java/lang/Object"), (0, u "<init>"), (0, u "()V"), (2, .fieldref 10 11), (0, .class_ 12), (0, .nameAndType 13 14), (0, u "java/lang/String"), (0, u "value"), (0, u "[B"), (0, .fieldref 10 16), (0, .nameAndType 17 18), (0, u "coder"), (0, u "B"), (2, u "hash"), (0, u "I"), (2, u "hashIsZero"), (0, u "Z"), (0, .methodref 10 28), (0, .nameAndType 5 29), (0, u "([CIILjava/lang/Void;)V"), (8, .fieldref 10 39), (0, .nameAndType 40 26), (0, u "COMPACT_STRINGS"), (1, .class_ 44), (1, u "java/lang/StringUTF16"), (0, u "compress"), (1, .methodref 42 48), (0, .nameAndType 49 50), (0, u "coderFromArrayLen"), (0, u "([BI)B"), (126, .methodref 42 178), (0, .nameAndType 45 179), (0, u "([CII)[B"), (363, u "equals"), (29, u "(Ljava/lang/Object;)Z"), (1, .class_ 576), (0, u "java/lang/CharSequence"), (22, u "CASE_INSENSITIVE_ORDER"), (0, u "Ljava/util/Comparator;"), (409, u "([C)V"), (90, u "serialPersistentFields"), (0, u "[Ljava/io/ObjectStreamField;"), (0, .class_ 1104), (0, u "java/lang/String$CaseInsensitiveComparator"), (1, .class_ 1107), (0, u "java/io/Serializable"), (0, .class_ 1109), (0, u "java/lang/Comparable"), (0, .class_ 1111), (0, u "java/lang/constant/Constable"), (0, .class_ 1113), (0, u "java/lang/constant/ConstantDesc"), (2, u "serialVersionUID"), (0, u "J"), (3, u "REPL"), (0, u "C"), (2, u "LATIN1"), (1, u "UTF16")] 323

def k7m0 : Method := { name := "<init>", desc := "()V", sig := { parameters := [], returnType := none }, accessFlags := 1, code := none }
def k7c1 : Code := { maxStack := 5, maxLocals := 2, code := jdk_42_method_3_code, exceptionTable := #[], attributes := #[] }
def k7m1 : Method := { name := "<init>", desc := "([C)V", sig := { parameters := [(.array .char)], returnType := none }, accessFlags := 1, code := some k7c1 }
def k7c2 : Code := { maxStack := 2, maxLocals := 3, code := jdk_42_method_66_code, exceptionTable := #[], attributes := #[] }
def k7m2 : Method := { name := "equals", desc := "(Ljava/lang/Object;)Z", sig := { parameters := [(.object "java/lang/Object")], returnType := some .boolean }, accessFlags := 1, code := some k7c2 }
def k7c3 : Code := { maxStack := 4, maxLocals := 6, code := jdk_42_method_149_code, exceptionTable := #[], attributes := #[] }
def k7m3 : Method := { name := "<init>", desc := "([CIILjava/lang/Void;)V", sig := { parameters := [(.array .char), .int, .int, (.object "java/lang/Void")], returnType := none }, accessFlags := 2, code := some k7c3 }
/-- java/lang/String -/
def k7 : Class := { plain "java/lang/String" (some 0) with
  accessFlags := 49
  interfaces := #[2, 3, 4, 5, 6]
  cf := some (fileOf pool7 10 #[.nestMembers #[1103]] #[{ accessFlags := 1, nameIndex := 5, descriptorIndex := 6, attributes := #[] }, { accessFlags := 1, nameIndex := 5, descriptorIndex := 1010, attributes := #[] }, { accessFlags := 1, nameIndex := 543, descriptorIndex := 573, attributes := #[] }, { accessFlags := 2, nameIndex := 5, descriptorIndex := 29, attributes := #[] }] 49 2 #[1106, 1108, 575, 1110, 1112] #[{ accessFlags := 18, nameIndex := 13, descriptorIndex := 14, attributes := #[] }, { accessFlags := 18, nameIndex := 17, descriptorIndex := 18, attributes := #[] }, { accessFlags := 2, nameIndex := 21, descriptorIndex := 22, attributes := #[] }, { accessFlags := 2, nameIndex := 25, descriptorIndex := 26, attributes := #[] }, { accessFlags := 26, nameIndex := 1116, descriptorIndex := 1117, attributes := #[] }, { accessFlags := 24, nameIndex := 40, descriptorIndex := 26, attributes := #[] }, { accessFlags := 26, nameIndex := 1101, descriptorIndex := 1102, attributes := #[] }, { accessFlags := 26, nameIndex := 1121, descriptorIndex := 1122, attributes := #[] }, { accessFlags := 25, nameIndex := 599, descriptorIndex := 600, attributes := #[] }, { accessFlags := 24, nameIndex := 1125, descriptorIndex := 18, attributes := #[] }, { accessFlags := 24, nameIndex := 1127, descriptorIndex := 18, attributes := #[] }])
  fields := #[{ name := "value", type := (.array .byte), accessFlags := 18, slot := 0, constantValue := 0 }, { name := "coder", type := .byte, accessFlags := 18, slot := 1, constantValue := 0 }, { name := "hash", type := .int, accessFlags := 2, slot := 2, constantValue := 0 }, { name := "hashIsZero", type := .boolean, accessFlags := 2, slot := 3, constantValue := 0 }, { name := "serialVersionUID", type := .long, accessFlags := 26, slot := 0, constantValue := 0 }, { name := "COMPACT_STRINGS", type := .boolean, accessFlags := 24, slot := 1, constantValue := 0 }, { name := "serialPersistentFields", type := (.array (.object "java/io/ObjectStreamField")), accessFlags := 26, slot := 2, constantValue := 0 }, { name := "REPL", type := .char, accessFlags := 26, slot := 3, constantValue := 0 }, { name := "CASE_INSENSITIVE_ORDER", type := (.object "java/util/Comparator"), accessFlags := 25, slot := 4, constantValue := 0 }, { name := "LATIN1", type := .byte, accessFlags := 24, slot := 5, constantValue := 0 }, { name := "UTF16", type := .byte, accessFlags := 24, slot := 6, constantValue := 0 }]
  methods := #[k7m0, k7m1, k7m2, k7m3]
  instanceTypes := #[(.array .byte), .byte, .int, .boolean]
  staticTypes := #[.long, .boolean, (.array (.object "java/io/ObjectStreamField")), .char, (.object "java/util/Comparator"), .byte, .byte]
  resolved := Array.replicate 1451 none
  statics := some 0 }

def pool8 : Array CpInfo := pool [(6, .class_ 8), (1, u "java/lang/Object"), (0, u "<init>"), (0, u "()V"), (1, .class_ 14), (1, u "java/lang/StringUTF16"), (31, u "$assertionsDisabled"), (0, u "Z"), (13, u "HI_BYTE_SHIFT"), (0, u "I"), (2, u "LO_BYTE_SHIFT"), (49, .methodref 12 116), (0, .nameAndType 117 118), (0, u "compress"), (0, u "([CI[BII)I"), (3, u "([CII)[B"), (138, u "coderFromArrayLen"), (0, u "([BI)B"), (106, .class_ 371), (1, u "java/lang/StringUTF16$LinesSpliterator"), (58, u "MAX_LENGTH"), (196, .class_ 628), (0, u "java/lang/StringUTF16$CodePointsSpliterator"), (0, .class_ 630), (0, u "java/lang/StringUTF16$CharsSpliterator")] 4

def k8m0 : Method := { name := "<init>", desc := "()V", sig := { parameters := [], returnType := none }, accessFlags := 0, code := none }
def k8c1 : Code := { maxStack := 2, maxLocals := 2, code := jdk_52_method_15_code, exceptionTable := #[], attributes := #[] }
def k8m1 : Method := { name := "coderFromArrayLen", desc := "([BI)B", sig := { parameters := [(.array .byte), .int], returnType := some .byte }, accessFlags := 8, code := some k8c1 }
def k8c2 : Code := { maxStack := 5, maxLocals := 6, code := jdk_52_method_16_code, exceptionTable := #[], attributes := #[] }
def k8m2 : Method := { name := "compress", desc := "([CII)[B", sig := { parameters := [(.array .char), .int, .int], returnType := some (.array .byte) }, accessFlags := 9, code := some k8c2 }
def k8c3 : Code := { maxStack := 3, maxLocals := 7, code := jdk_52_method_21_code, exceptionTable := #[], attributes := #[] }
def k8m3 : Method := { name := "compress", desc := "([CI[BII)I", sig := { parameters := [(.array .char), .int, (.array .byte), .int, .int], returnType := some .int }, accessFlags := 9, code := some k8c3 }
/-- java/lang/StringUTF16 -/
def k8 : Class := { plain "java/lang/StringUTF16" (some 0) with
  accessFlags := 48
  interfaces := #[]
  cf := some (fileOf pool8 12 #[.nestMembers #[627, 629, 369]] #[{ accessFlags := 0, nameIndex := 9, descriptorIndex := 10, attributes := #[] }, { accessFlags := 8, nameIndex := 261, descriptorIndex := 262, attributes := #[] }, { accessFlags := 9, nameIndex := 117, descriptorIndex := 122, attributes := #[] }, { accessFlags := 9, nameIndex := 117, descriptorIndex := 118, attributes := #[] }] 48 6 #[] #[{ accessFlags := 26, nameIndex := 61, descriptorIndex := 62, attributes := #[] }, { accessFlags := 26, nameIndex := 65, descriptorIndex := 62, attributes := #[] }, { accessFlags := 24, nameIndex := 430, descriptorIndex := 62, attributes := #[] }, { accessFlags := 4120, nameIndex := 46, descriptorIndex := 47, attributes := #[] }])
  fields := #[{ name := "HI_BYTE_SHIFT", type := .int, accessFlags := 26, slot := 0, constantValue := 0 }, { name := "LO_BYTE_SHIFT", type := .int, accessFlags := 26, slot := 1, constantValue := 0 }, { name := "MAX_LENGTH", type := .int, accessFlags := 24, slot := 2, constantValue := 0 }, { name := "$assertionsDisabled", type := .boolean, accessFlags := 4120, slot := 3, constantValue := 0 }]
  methods := #[k8m0, k8m1, k8m2, k8m3]
  instanceTypes := #[]
  staticTypes := #[.int, .int, .int, .boolean]
  resolved := Array.replicate 635 none
  statics := none }

def pool9 : Array CpInfo := pool [(1, .methodref 2 3), (0, .class_ 4), (0, .nameAndType 5 6), (0, u "java/lang/Object"), (0, u "<init>"), (0, u "()V"), (0, .class_ 8), (0, u "java/lang/Record")] 13

def k9c0 : Code := { maxStack := 1, maxLocals := 1, code := jdk_30_method_1_code, exceptionTable := #[], attributes := #[] }
def k9m0 : Method := { name := "<init>", desc := "()V", sig := { parameters := [], returnType := none }, accessFlags := 4, code := some k9c0 }
/-- java/lang/Record -/
def k9 : Class := { plain "java/lang/Record" (some 0) with
  accessFlags := 1057
  interfaces := #[]
  cf := some (fileOf pool9 7 #[] #[{ accessFlags := 4, nameIndex := 5, descriptorIndex := 6, attributes := #[] }] 1057 2 #[] #[])
  fields := #[]
  methods := #[k9m0]
  instanceTypes := #[]
  staticTypes := #[]
  resolved := Array.replicate 22 none
  statics := none }

def pool10 : Array CpInfo := pool [(1, .methodref 2 3), (0, .class_ 4), (0, .nameAndType 5 6), (0, u "java/lang/Record"), (0, u "<init>"), (0, u "()V"), (0, .fieldref 8 9), (0, .class_ 10), (0, .nameAndType 11 12), (0, u "com/example/vestledger/vestledger/plan/Fund"), (0, u "number"), (0, u "I"), (0, .fieldref 8 14), (0, .nameAndType 15 16), (0, u "id"), (0, u "Ljava/lang/String;"), (0, .fieldref 8 18), (0, .nameAndType 19 16), (0, u "name"), (0, .fieldref 8 21), (0, .nameAndType 22 23), (0, u "fixedPrice"), (0, u "Ljava/util/Optional;"), (0, .fieldref 8 25), (0, .nameAndType 26 27), (0, u "companyStock"), (0, u "Z"), (0, .fieldref 8 29), (0, .nameAndType 30 12), (0, u "line"), (0, .methodref 32 33), (0, .class_ 34), (0, .nameAndType 35 36), (0, u "java/lang/String"), (0, u "equals"), (0, u "(Ljava/lang/Object;)Z"), (0, .methodref 38 33), (0, .class_ 39), (0, u "java/util/Optional"), (10, u "(ILjava/lang/String;Ljava/lang/String;Ljava/util/Optional;ZI)V")] 34

def k10c0 : Code := { maxStack := 2, maxLocals := 7, code := prog_57_method_1_code, exceptionTable := #[], attributes := #[] }
def k10m0 : Method := { name := "<init>", desc := "(ILjava/lang/String;Ljava/lang/String;Ljava/util/Optional;ZI)V", sig := { parameters := [.int, (.object "java/lang/String"), (.object "java/lang/String"), (.object "java/util/Optional"), .boolean, .int], returnType := none }, accessFlags := 1, code := some k10c0 }
def k10c1 : Code := { maxStack := 2, maxLocals := 3, code := prog_57_method_2_code, exceptionTable := #[], attributes := #[] }
def k10m1 : Method := { name := "equals", desc := "(Ljava/lang/Object;)Z", sig := { parameters := [(.object "java/lang/Object")], returnType := some .boolean }, accessFlags := 1, code := some k10c1 }
/-- com/example/vestledger/vestledger/plan/Fund -/
def k10 : Class := { plain "com/example/vestledger/vestledger/plan/Fund" (some 9) with
  accessFlags := 49
  interfaces := #[]
  cf := some (fileOf pool10 8 #[] #[{ accessFlags := 1, nameIndex := 5, descriptorIndex := 50, attributes := #[] }, { accessFlags := 1, nameIndex := 35, descriptorIndex := 36, attributes := #[] }] 49 2 #[] #[{ accessFlags := 18, nameIndex := 11, descriptorIndex := 12, attributes := #[] }, { accessFlags := 18, nameIndex := 15, descriptorIndex := 16, attributes := #[] }, { accessFlags := 18, nameIndex := 19, descriptorIndex := 16, attributes := #[] }, { accessFlags := 18, nameIndex := 22, descriptorIndex := 23, attributes := #[] }, { accessFlags := 18, nameIndex := 26, descriptorIndex := 27, attributes := #[] }, { accessFlags := 18, nameIndex := 30, descriptorIndex := 12, attributes := #[] }])
  fields := #[{ name := "number", type := .int, accessFlags := 18, slot := 0, constantValue := 0 }, { name := "id", type := (.object "java/lang/String"), accessFlags := 18, slot := 1, constantValue := 0 }, { name := "name", type := (.object "java/lang/String"), accessFlags := 18, slot := 2, constantValue := 0 }, { name := "fixedPrice", type := (.object "java/util/Optional"), accessFlags := 18, slot := 3, constantValue := 0 }, { name := "companyStock", type := .boolean, accessFlags := 18, slot := 4, constantValue := 0 }, { name := "line", type := .int, accessFlags := 18, slot := 5, constantValue := 0 }]
  methods := #[k10m0, k10m1]
  instanceTypes := #[.int, (.object "java/lang/String"), (.object "java/lang/String"), (.object "java/util/Optional"), .boolean, .int]
  staticTypes := #[]
  resolved := Array.replicate 85 none
  statics := none }

def pool11 : Array CpInfo := pool [(1, .fieldref 2 3), (0, .class_ 4), (0, .nameAndType 5 6), (0, u "java/util/Optional"), (0, u "EMPTY"), (0, u "Ljava/util/Optional;"), (0, .methodref 8 9), (0, .class_ 10), (0, .nameAndType 11 12), (0, u "java/lang/Object"), (0, u "<init>"), (0, u "()V"), (0, .fieldref 2 14), (0, .nameAndType 15 16), (0, u "value"), (0, u "Ljava/lang/Object;"), (0, .methodref 18 19), (0, .class_ 20), (0, .nameAndType 21 22), (0, u "java/util/Objects"), (0, u "requireNonNull"), (0, u "(Ljava/lang/Object;)Ljava/lang/Object;"), (0, .methodref 2 24), (0, .nameAndType 11 25), (0, u "(Ljava/lang/Object;)V"), (20, u "()Z"), (5, u "(Ljava/lang/Object;)Z"), (2, u "empty"), (0, u "()Ljava/util/Optional;"), (8, u "(Ljava/lang/Object;)Ljava/util/Optional;"), (2, u "isPresent"), (4, u "get"), (0, u "()Ljava/lang/Object;"), (7, u "of"), (5, u "equals")] 98

def k11c0 : Code := { maxStack := 1, maxLocals := 1, code := jdk_32_method_1_code, exceptionTable := #[], attributes := #[] }
def k11m0 : Method := { name := "empty", desc := "()Ljava/util/Optional;", sig := { parameters := [], returnType := some (.object "java/util/Optional") }, accessFlags := 9, code := some k11c0 }
def k11c1 : Code := { maxStack := 2, maxLocals := 2, code := jdk_32_method_2_code, exceptionTable := #[], attributes := #[] }
def k11m1 : Method := { name := "<init>", desc := "(Ljava/lang/Object;)V", sig := { parameters := [(.object "java/lang/Object")], returnType := none }, accessFlags := 2, code := some k11c1 }
def k11c2 : Code := { maxStack := 3, maxLocals := 1, code := jdk_32_method_3_code, exceptionTable := #[], attributes := #[] }
def k11m2 : Method := { name := "of", desc := "(Ljava/lang/Object;)Ljava/util/Optional;", sig := { parameters := [(.object "java/lang/Object")], returnType := some (.object "java/util/Optional") }, accessFlags := 9, code := some k11c2 }
def k11c3 : Code := { maxStack := 3, maxLocals := 1, code := jdk_32_method_5_code, exceptionTable := #[], attributes := #[] }
def k11m3 : Method := { name := "get", desc := "()Ljava/lang/Object;", sig := { parameters := [], returnType := some (.object "java/lang/Object") }, accessFlags := 1, code := some k11c3 }
def k11c4 : Code := { maxStack := 1, maxLocals := 1, code := jdk_32_method_6_code, exceptionTable := #[], attributes := #[] }
def k11m4 : Method := { name := "isPresent", desc := "()Z", sig := { parameters := [], returnType := some .boolean }, accessFlags := 1, code := some k11c4 }
def k11c5 : Code := { maxStack := 2, maxLocals := 3, code := jdk_32_method_19_code, exceptionTable := #[], attributes := #[] }
def k11m5 : Method := { name := "equals", desc := "(Ljava/lang/Object;)Z", sig := { parameters := [(.object "java/lang/Object")], returnType := some .boolean }, accessFlags := 1, code := some k11c5 }
/-- java/util/Optional -/
def k11 : Class := { plain "java/util/Optional" (some 0) with
  accessFlags := 49
  interfaces := #[]
  cf := some (fileOf pool11 2 #[] #[{ accessFlags := 9, nameIndex := 55, descriptorIndex := 56, attributes := #[] }, { accessFlags := 2, nameIndex := 11, descriptorIndex := 25, attributes := #[] }, { accessFlags := 9, nameIndex := 82, descriptorIndex := 65, attributes := #[] }, { accessFlags := 1, nameIndex := 73, descriptorIndex := 74, attributes := #[] }, { accessFlags := 1, nameIndex := 68, descriptorIndex := 46, attributes := #[] }, { accessFlags := 1, nameIndex := 88, descriptorIndex := 52, attributes := #[] }] 49 8 #[] #[{ accessFlags := 26, nameIndex := 5, descriptorIndex := 6, attributes := #[] }, { accessFlags := 18, nameIndex := 15, descriptorIndex := 16, attributes := #[] }])
  fields := #[{ name := "EMPTY", type := (.object "java/util/Optional"), accessFlags := 26, slot := 0, constantValue := 0 }, { name := "value", type := (.object "java/lang/Object"), accessFlags := 18, slot := 0, constantValue := 0 }]
  methods := #[k11m0, k11m1, k11m2, k11m3, k11m4, k11m5]
  instanceTypes := #[(.object "java/lang/Object")]
  staticTypes := #[(.object "java/util/Optional")]
  resolved := Array.replicate 187 none
  statics := some 1 }

def pool12 : Array CpInfo := pool [(1, .methodref 2 3), (0, .class_ 4), (0, .nameAndType 5 6), (0, u "java/lang/Object"), (0, u "<init>"), (0, u "()V"), (1, .class_ 10), (1, u "java/lang/Number"), (2, .class_ 14), (0, u "java/io/Serializable"), (0, u "serialVersionUID"), (0, u "J")] 20

def k12c0 : Code := { maxStack := 1, maxLocals := 1, code := jdk_18_method_1_code, exceptionTable := #[], attributes := #[] }
def k12m0 : Method := { name := "<init>", desc := "()V", sig := { parameters := [], returnType := none }, accessFlags := 1, code := some k12c0 }
/-- java/lang/Number -/
def k12 : Class := { plain "java/lang/Number" (some 0) with
  accessFlags := 1057
  interfaces := #[2]
  cf := some (fileOf pool12 8 #[] #[{ accessFlags := 1, nameIndex := 5, descriptorIndex := 6, attributes := #[] }] 1057 2 #[13] #[{ accessFlags := 26, nameIndex := 15, descriptorIndex := 16, attributes := #[] }])
  fields := #[{ name := "serialVersionUID", type := .long, accessFlags := 26, slot := 0, constantValue := 0 }]
  methods := #[k12m0]
  instanceTypes := #[]
  staticTypes := #[.long]
  resolved := Array.replicate 37 none
  statics := none }

def pool13 : Array CpInfo := pool [(1, .class_ 2), (0, u "java/lang/Integer"), (16, u "digits"), (0, u "[C"), (46, u "<init>"), (17, u "DigitOnes"), (0, u "[B"), (2, u "DigitTens"), (10, .nameAndType 67 101), (0, u "()V"), (85, u "valueOf"), (0, u "(I)Ljava/lang/Integer;"), (0, .class_ 190), (0, u "java/lang/Integer$IntegerCache"), (0, .fieldref 189 192), (0, .nameAndType 193 194), (0, u "high"), (0, u "I"), (0, .fieldref 189 196), (0, .nameAndType 197 198), (0, u "cache"), (0, u "[Ljava/lang/Integer;"), (0, .methodref 1 200), (0, .nameAndType 67 201), (0, u "(I)V"), (0, .methodref 203 100), (0, .class_ 204), (0, u "java/lang/Number"), (0, .fieldref 1 206), (0, .nameAndType 207 194), (0, u "value"), (94, u "TYPE"), (0, u "Ljava/lang/Class;"), (0, .class_ 305), (0, u "java/lang/Comparable"), (0, .class_ 307), (0, u "java/lang/constant/Constable"), (0, .class_ 309), (0, u "java/lang/constant/ConstantDesc"), (0, u "MIN_VALUE"), (1, u "MAX_VALUE"), (3, u "SIZE"), (1, u "BYTES"), (1, u "serialVersionUID"), (0, u "J")] 131

def k13c0 : Code := { maxStack := 3, maxLocals := 1, code := jdk_33_method_22_code, exceptionTable := #[], attributes := #[] }
def k13m0 : Method := { name := "valueOf", desc := "(I)Ljava/lang/Integer;", sig := { parameters := [.int], returnType := some (.object "java/lang/Integer") }, accessFlags := 9, code := some k13c0 }
def k13c1 : Code := { maxStack := 2, maxLocals := 2, code := jdk_33_method_23_code, exceptionTable := #[], attributes := #[] }
def k13m1 : Method := { name := "<init>", desc := "(I)V", sig := { parameters := [.int], returnType := none }, accessFlags := 1, code := some k13c1 }
/-- java/lang/Integer -/
def k13 : Class := { plain "java/lang/Integer" (some 12) with
  accessFlags := 49
  interfaces := #[3, 5, 6]
  cf := some (fileOf pool13 1 #[.nestMembers #[189]] #[{ accessFlags := 9, nameIndex := 187, descriptorIndex := 188, attributes := #[] }, { accessFlags := 1, nameIndex := 67, descriptorIndex := 201, attributes := #[] }] 49 203 #[304, 306, 308] #[{ accessFlags := 25, nameIndex := 310, descriptorIndex := 194, attributes := #[] }, { accessFlags := 25, nameIndex := 312, descriptorIndex := 194, attributes := #[] }, { accessFlags := 25, nameIndex := 302, descriptorIndex := 303, attributes := #[] }, { accessFlags := 24, nameIndex := 19, descriptorIndex := 20, attributes := #[] }, { accessFlags := 24, nameIndex := 89, descriptorIndex := 86, attributes := #[] }, { accessFlags := 24, nameIndex := 85, descriptorIndex := 86, attributes := #[] }, { accessFlags := 18, nameIndex := 207, descriptorIndex := 194, attributes := #[] }, { accessFlags := 25, nameIndex := 316, descriptorIndex := 194, attributes := #[] }, { accessFlags := 25, nameIndex := 318, descriptorIndex := 194, attributes := #[] }, { accessFlags := 26, nameIndex := 320, descriptorIndex := 321, attributes := #[] }])
  fields := #[{ name := "MIN_VALUE", type := .int, accessFlags := 25, slot := 0, constantValue := 0 }, { name := "MAX_VALUE", type := .int, accessFlags := 25, slot := 1, constantValue := 0 }, { name := "TYPE", type := (.object "java/lang/Class"), accessFlags := 25, slot := 2, constantValue := 0 }, { name := "digits", type := (.array .char), accessFlags := 24, slot := 3, constantValue := 0 }, { name := "DigitTens", type := (.array .byte), accessFlags := 24, slot := 4, constantValue := 0 }, { name := "DigitOnes", type := (.array .byte), accessFlags := 24, slot := 5, constantValue := 0 }, { name := "value", type := .int, accessFlags := 18, slot := 0, constantValue := 0 }, { name := "SIZE", type := .int, accessFlags := 25, slot := 6, constantValue := 0 }, { name := "BYTES", type := .int, accessFlags := 25, slot := 7, constantValue := 0 }, { name := "serialVersionUID", type := .long, accessFlags := 26, slot := 8, constantValue := 0 }]
  methods := #[k13m0, k13m1]
  instanceTypes := #[.int]
  staticTypes := #[.int, .int, (.object "java/lang/Class"), (.array .char), (.array .byte), (.array .byte), .int, .int, .long]
  resolved := Array.replicate 453 none
  statics := none }

def pool14 : Array CpInfo := pool [(2, .class_ 4), (1, u "java/lang/Object"), (0, u "<init>"), (0, u "()V"), (0, .class_ 8), (0, u "java/lang/Integer"), (7, .class_ 18), (1, u "java/lang/Integer$IntegerCache"), (0, u "$assertionsDisabled"), (0, u "Z"), (26, u "high"), (0, u "I"), (8, u "archivedCache"), (0, u "[Ljava/lang/Integer;"), (12, u "cache"), (0, u "low")] 27

def k14m0 : Method := { name := "<init>", desc := "()V", sig := { parameters := [], returnType := none }, accessFlags := 2, code := none }
/-- java/lang/Integer$IntegerCache -/
def k14 : Class := { plain "java/lang/Integer$IntegerCache" (some 0) with
  accessFlags := 48
  interfaces := #[]
  cf := some (fileOf pool14 16 #[.nestHost 7] #[{ accessFlags := 2, nameIndex := 5, descriptorIndex := 6, attributes := #[] }] 48 2 #[] #[{ accessFlags := 24, nameIndex := 72, descriptorIndex := 48, attributes := #[] }, { accessFlags := 24, nameIndex := 47, descriptorIndex := 48, attributes := #[] }, { accessFlags := 24, nameIndex := 71, descriptorIndex := 58, attributes := #[] }, { accessFlags := 8, nameIndex := 57, descriptorIndex := 58, attributes := #[] }, { accessFlags := 4120, nameIndex := 19, descriptorIndex := 20, attributes := #[] }])
  fields := #[{ name := "low", type := .int, accessFlags := 24, slot := 0, constantValue := 0 }, { name := "high", type := .int, accessFlags := 24, slot := 1, constantValue := 0 }, { name := "cache", type := (.array (.object "java/lang/Integer")), accessFlags := 24, slot := 2, constantValue := 0 }, { name := "archivedCache", type := (.array (.object "java/lang/Integer")), accessFlags := 8, slot := 3, constantValue := 0 }, { name := "$assertionsDisabled", type := .boolean, accessFlags := 4120, slot := 4, constantValue := 0 }]
  methods := #[k14m0]
  instanceTypes := #[]
  staticTypes := #[.int, .int, (.array (.object "java/lang/Integer")), (.array (.object "java/lang/Integer")), .boolean]
  resolved := Array.replicate 100 none
  statics := some 2 }

def pool15 : Array CpInfo := pool [(2, .class_ 4), (1, u "java/lang/Object"), (0, u "<init>"), (0, u "()V"), (35, .class_ 44), (1, u "java/util/Objects"), (0, u "requireNonNull"), (0, u "(Ljava/lang/Object;)Ljava/lang/Object;")] 137

def k15m0 : Method := { name := "<init>", desc := "()V", sig := { parameters := [], returnType := none }, accessFlags := 2, code := none }
def k15c1 : Code := { maxStack := 2, maxLocals := 1, code := jdk_31_method_10_code, exceptionTable := #[], attributes := #[] }
def k15m1 : Method := { name := "requireNonNull", desc := "(Ljava/lang/Object;)Ljava/lang/Object;", sig := { parameters := [(.object "java/lang/Object")], returnType := some (.object "java/lang/Object") }, accessFlags := 9, code := some k15c1 }
/-- java/util/Objects -/
def k15 : Class := { plain "java/util/Objects" (some 0) with
  accessFlags := 49
  interfaces := #[]
  cf := some (fileOf pool15 42 #[] #[{ accessFlags := 2, nameIndex := 5, descriptorIndex := 6, attributes := #[] }, { accessFlags := 9, nameIndex := 45, descriptorIndex := 46, attributes := #[] }] 49 2 #[] #[])
  fields := #[]
  methods := #[k15m0, k15m1]
  instanceTypes := #[]
  staticTypes := #[]
  resolved := Array.replicate 184 none
  statics := none }

def pool16 : Array CpInfo := pool [(1, .methodref 2 3), (0, .class_ 4), (0, .nameAndType 5 6), (0, u "java/lang/Record"), (0, u "<init>"), (0, u "()V"), (0, .fieldref 8 9), (0, .class_ 10), (0, .nameAndType 11 12), (0, u "com/example/vestledger/vestledger/plan/PaymentElection"), (0, u "form"), (0, u "Lcom/example/vestledger/vestledger/plan/PaymentForm;"), (0, .fieldref 8 14), (0, .nameAndType 15 16), (0, u "payments"), (0, u "I"), (12, u "(Lcom/example/vestledger/vestledger/plan/PaymentForm;I)V")] 28

def k16c0 : Code := { maxStack := 2, maxLocals := 3, code := prog_70_method_1_code, exceptionTable := #[], attributes := #[] }
def k16m0 : Method := { name := "<init>", desc := "(Lcom/example/vestledger/vestledger/plan/PaymentForm;I)V", sig := { parameters := [(.object "com/example/vestledger/vestledger/plan/PaymentForm"), .int], returnType := none }, accessFlags := 1, code := some k16c0 }
/-- com/example/vestledger/vestledger/plan/PaymentElection -/
def k16 : Class := { plain "com/example/vestledger/vestledger/plan/PaymentElection" (some 9) with
  accessFlags := 49
  interfaces := #[]
  cf := some (fileOf pool16 8 #[] #[{ accessFlags := 1, nameIndex := 5, descriptorIndex := 29, attributes := #[] }] 49 2 #[] #[{ accessFlags := 18, nameIndex := 11, descriptorIndex := 12, attributes := #[] }, { accessFlags := 18, nameIndex := 15, descriptorIndex := 16, attributes := #[] }])
  fields := #[{ name := "form", type := (.object "com/example/vestledger/vestledger/plan/PaymentForm"), accessFlags := 18, slot := 0, constantValue := 0 }, { name := "payments", type := .int, accessFlags := 18, slot := 1, constantValue := 0 }]
  methods := #[k16m0]
  instanceTypes := #[(.object "com/example/vestledger/vestledger/plan/PaymentForm"), .int]
  staticTypes := #[]
  resolved := Array.replicate 58 none
  statics := none }

def pool17 : Array CpInfo := pool [(1, .methodref 2 3), (0, .class_ 4), (0, .nameAndType 5 6), (0, u "java/lang/Record"), (0, u "<init>"), (0, u "()V"), (0, .fieldref 8 9), (0, .class_ 10), (0, .nameAndType 11 12), (0, u "com/example/vestledger/vestledger/plan/Elections$Part"), (0, u "planYear"), (0, u "Ljava/util/Optional;"), (0, .fieldref 8 14), (0, .nameAndType 15 12), (0, u "payment"), (0, .fieldref 8 17), (0, .nameAndType 18 12), (0, u "companyStock"), (0, .methodref 20 21), (0, .class_ 22), (0, .nameAndType 23 24), (0, u "java/util/Optional"), (0, u "of"), (0, u "(Ljava/lang/Object;)Ljava/util/Optional;"), (0, .methodref 8 26), (0, .nameAndType 5 27), (0, u "(Ljava/util/Optional;Ljava/util/Optional;Ljava/util/Optional;)V"), (24, u "ofCompanyStock"), (0, u "(Lcom/example/vestledger/vestledger/plan/Fund;)Lcom/example/vestledger/vestledger/plan/Elections$Part;"), (2, u "()Ljava/util/Optional;"), (6, .class_ 64), (0, u "com/example/vestledger/vestledger/plan/Elections")] 21

def k17c0 : Code := { maxStack := 2, maxLocals := 4, code := prog_53_method_1_code, exceptionTable := #[], attributes := #[] }
def k17m0 : Method := { name := "<init>", desc := "(Ljava/util/Optional;Ljava/util/Optional;Ljava/util/Optional;)V", sig := { parameters := [(.object "java/util/Optional"), (.object "java/util/Optional"), (.object "java/util/Optional")], returnType := none }, accessFlags := 0, code := some k17c0 }
def k17c1 : Code := { maxStack := 5, maxLocals := 2, code := prog_53_method_2_code, exceptionTable := #[], attributes := #[] }
def k17m1 : Method := { name := "ofCompanyStock", desc := "(Lcom/example/vestledger/vestledger/plan/Fund;)Lcom/example/vestledger/vestledger/plan/Elections$Part;", sig := { parameters := [(.object "com/example/vestledger/vestledger/plan/Fund")], returnType := some (.object "com/example/vestledger/vestledger/plan/Elections$Part") }, accessFlags := 0, code := some k17c1 }
def k17c2 : Code := { maxStack := 1, maxLocals := 1, code := prog_53_method_6_code, exceptionTable := #[], attributes := #[] }
def k17m2 : Method := { name := "planYear", desc := "()Ljava/util/Optional;", sig := { parameters := [], returnType := some (.object "java/util/Optional") }, accessFlags := 1, code := some k17c2 }
def k17c3 : Code := { maxStack := 1, maxLocals := 1, code := prog_53_method_7_code, exceptionTable := #[], attributes := #[] }
def k17m3 : Method := { name := "payment", desc := "()Ljava/util/Optional;", sig := { parameters := [], returnType := some (.object "java/util/Optional") }, accessFlags := 1, code := some k17c3 }
def k17c4 : Code := { maxStack := 1, maxLocals := 1, code := prog_53_method_8_code, exceptionTable := #[], attributes := #[] }
def k17m4 : Method := { name := "companyStock", desc := "()Ljava/util/Optional;", sig := { parameters := [], returnType := some (.object "java/util/Optional") }, accessFlags := 1, code := some k17c4 }
/-- com/example/vestledger/vestledger/plan/Elections$Part -/
def k17 : Class := { plain "com/example/vestledger/vestledger/plan/Elections$Part" (some 9) with
  accessFlags := 48
  interfaces := #[]
  cf := some (fileOf pool17 8 #[.nestHost 63] #[{ accessFlags := 0, nameIndex := 5, descriptorIndex := 27, attributes := #[] }, { accessFlags := 0, nameIndex := 52, descriptorIndex := 53, attributes := #[] }, { accessFlags := 1, nameIndex := 11, descriptorIndex := 56, attributes := #[] }, { accessFlags := 1, nameIndex := 15, descriptorIndex := 56, attributes := #[] }, { accessFlags := 1, nameIndex := 18, descriptorIndex := 56, attributes := #[] }] 48 2 #[] #[{ accessFlags := 18, nameIndex := 11, descriptorIndex := 12, attributes := #[] }, { accessFlags := 18, nameIndex := 15, descriptorIndex := 12, attributes := #[] }, { accessFlags := 18, nameIndex := 18, descriptorIndex := 12, attributes := #[] }])
  fields := #[{ name := "planYear", type := (.object "java/util/Optional"), accessFlags := 18, slot := 0, constantValue := 0 }, { name := "payment", type := (.object "java/util/Optional"), accessFlags := 18, slot := 1, constantValue := 0 }, { name := "companyStock", type := (.object "java/util/Optional"), accessFlags := 18, slot := 2, constantValue := 0 }]
  methods := #[k17m0, k17m1, k17m2, k17m3, k17m4]
  instanceTypes := #[(.object "java/util/Optional"), (.object "java/util/Optional"), (.object "java/util/Optional")]
  staticTypes := #[]
  resolved := Array.replicate 86 none
  statics := none }

def pool18 : Array CpInfo := pool [(4, .class_ 6), (1, u "java/lang/Object"), (0, u "<init>"), (0, u "()V"), (5, .class_ 16), (1, u "java/lang/StringLatin1"), (104, u "$assertionsDisabled"), (0, u "Z"), (98, .class_ 223), (1, u "java/lang/StringLatin1$LinesSpliterator"), (166, .class_ 391), (0, u "java/lang/StringLatin1$CharsSpliterator")] 3

def k18m0 : Method := { name := "<init>", desc := "()V", sig := { parameters := [], returnType := none }, accessFlags := 0, code := none }
/-- java/lang/StringLatin1 -/
def k18 : Class := { plain "java/lang/StringLatin1" (some 0) with
  accessFlags := 48
  interfaces := #[]
  cf := some (fileOf pool18 14 #[.nestMembers #[390, 221]] #[{ accessFlags := 0, nameIndex := 7, descriptorIndex := 8, attributes := #[] }] 48 4 #[] #[{ accessFlags := 4120, nameIndex := 121, descriptorIndex := 122, attributes := #[] }])
  fields := #[{ name := "$assertionsDisabled", type := .boolean, accessFlags := 4120, slot := 0, constantValue := 0 }]
  methods := #[k18m0]
  instanceTypes := #[]
  staticTypes := #[.boolean]
  resolved := Array.replicate 395 none
  statics := none }

def pool19 : Array CpInfo := pool [(2, .class_ 4), (1, u "java/lang/Object"), (0, u "<init>"), (0, u "()V"), (17, .class_ 26), (1, u "jdk/internal/util/Preconditions"), (28, .class_ 56), (0, u "jdk/internal/util/Preconditions$4"), (57, .class_ 115), (0, u "jdk/internal/util/Preconditions$1"), (7, u "SIOOBE_FORMATTER"), (0, u "Ljava/util/function/BiFunction;"), (0, .class_ 126), (0, u "jdk/internal/util/Preconditions$2"), (3, u "AIOOBE_FORMATTER"), (0, .class_ 132), (0, u "jdk/internal/util/Preconditions$3"), (3, u "IOOBE_FORMATTER")] 57

def k19m0 : Method := { name := "<init>", desc := "()V", sig := { parameters := [], returnType := none }, accessFlags := 1, code := none }
/-- jdk/internal/util/Preconditions -/
def k19 : Class := { plain "jdk/internal/util/Preconditions" (some 0) with
  accessFlags := 33
  interfaces := #[]
  cf := some (fileOf pool19 24 #[.nestMembers #[55, 131, 125, 114]] #[{ accessFlags := 1, nameIndex := 5, descriptorIndex := 6, attributes := #[] }] 33 2 #[] #[{ accessFlags := 25, nameIndex := 123, descriptorIndex := 124, attributes := #[] }, { accessFlags := 25, nameIndex := 130, descriptorIndex := 124, attributes := #[] }, { accessFlags := 25, nameIndex := 136, descriptorIndex := 124, attributes := #[] }])
  fields := #[{ name := "SIOOBE_FORMATTER", type := (.object "java/util/function/BiFunction"), accessFlags := 25, slot := 0, constantValue := 0 }, { name := "AIOOBE_FORMATTER", type := (.object "java/util/function/BiFunction"), accessFlags := 25, slot := 1, constantValue := 0 }, { name := "IOOBE_FORMATTER", type := (.object "java/util/function/BiFunction"), accessFlags := 25, slot := 2, constantValue := 0 }]
  methods := #[k19m0]
  instanceTypes := #[]
  staticTypes := #[(.object "java/util/function/BiFunction"), (.object "java/util/function/BiFunction"), (.object "java/util/function/BiFunction")]
  resolved := Array.replicate 194 none
  statics := some 3 }

def pool20 : Array CpInfo := pool [(9, u "<init>"), (6, .class_ 18), (1, u "java/lang/Object"), (0, u "()V"), (1, .class_ 23), (1, u "jdk/internal/util/ArraysSupport"), (0, u "LOG2_ARRAY_LONG_INDEX_SCALE"), (0, u "I"), (2, u "U"), (0, u "Ljdk/internal/misc/Unsafe;"), (8, u "BIG_ENDIAN"), (0, u "Z"), (8, u "LOG2_BYTE_BIT_SIZE"), (4, u "LOG2_ARRAY_INT_INDEX_SCALE"), (54, u "JLA"), (0, u "Ljdk/internal/access/JavaLangAccess;"), (11, u "LOG2_ARRAY_BOOLEAN_INDEX_SCALE"), (9, u "LOG2_ARRAY_BYTE_INDEX_SCALE"), (5, u "LOG2_ARRAY_CHAR_INDEX_SCALE"), (5, u "LOG2_ARRAY_SHORT_INDEX_SCALE"), (18, u "LOG2_ARRAY_FLOAT_INDEX_SCALE"), (24, u "LOG2_ARRAY_DOUBLE_INDEX_SCALE"), (89, u "T_BOOLEAN"), (2, u "T_CHAR"), (1, u "T_FLOAT"), (1, u "T_DOUBLE"), (1, u "T_BYTE"), (1, u "T_SHORT"), (1, u "T_INT"), (1, u "T_LONG"), (1, u "SOFT_MAX_ARRAY_LENGTH")] 83

def k20m0 : Method := { name := "<init>", desc := "()V", sig := { parameters := [], returnType := none }, accessFlags := 2, code := none }
/-- jdk/internal/util/ArraysSupport -/
def k20 : Class := { plain "jdk/internal/util/ArraysSupport" (some 0) with
  accessFlags := 33
  interfaces := #[]
  cf := some (fileOf pool20 21 #[] #[{ accessFlags := 2, nameIndex := 9, descriptorIndex := 19, attributes := #[] }] 33 16 #[] #[{ accessFlags := 24, nameIndex := 28, descriptorIndex := 29, attributes := #[] }, { accessFlags := 26, nameIndex := 38, descriptorIndex := 39, attributes := #[] }, { accessFlags := 25, nameIndex := 121, descriptorIndex := 25, attributes := #[] }, { accessFlags := 25, nameIndex := 131, descriptorIndex := 25, attributes := #[] }, { accessFlags := 25, nameIndex := 137, descriptorIndex := 25, attributes := #[] }, { accessFlags := 25, nameIndex := 143, descriptorIndex := 25, attributes := #[] }, { accessFlags := 25, nameIndex := 53, descriptorIndex := 25, attributes := #[] }, { accessFlags := 25, nameIndex := 24, descriptorIndex := 25, attributes := #[] }, { accessFlags := 25, nameIndex := 162, descriptorIndex := 25, attributes := #[] }, { accessFlags := 25, nameIndex := 187, descriptorIndex := 25, attributes := #[] }, { accessFlags := 26, nameIndex := 48, descriptorIndex := 25, attributes := #[] }, { accessFlags := 25, nameIndex := 277, descriptorIndex := 25, attributes := #[] }, { accessFlags := 25, nameIndex := 280, descriptorIndex := 25, attributes := #[] }, { accessFlags := 25, nameIndex := 282, descriptorIndex := 25, attributes := #[] }, { accessFlags := 25, nameIndex := 284, descriptorIndex := 25, attributes := #[] }, { accessFlags := 25, nameIndex := 286, descriptorIndex := 25, attributes := #[] }, { accessFlags := 25, nameIndex := 288, descriptorIndex := 25, attributes := #[] }, { accessFlags := 25, nameIndex := 290, descriptorIndex := 25, attributes := #[] }, { accessFlags := 25, nameIndex := 292, descriptorIndex := 25, attributes := #[] }, { accessFlags := 26, nameIndex := 108, descriptorIndex := 109, attributes := #[] }, { accessFlags := 25, nameIndex := 294, descriptorIndex := 25, attributes := #[] }])
  fields := #[{ name := "U", type := (.object "jdk/internal/misc/Unsafe"), accessFlags := 24, slot := 0, constantValue := 0 }, { name := "BIG_ENDIAN", type := .boolean, accessFlags := 26, slot := 1, constantValue := 0 }, { name := "LOG2_ARRAY_BOOLEAN_INDEX_SCALE", type := .int, accessFlags := 25, slot := 2, constantValue := 0 }, { name := "LOG2_ARRAY_BYTE_INDEX_SCALE", type := .int, accessFlags := 25, slot := 3, constantValue := 0 }, { name := "LOG2_ARRAY_CHAR_INDEX_SCALE", type := .int, accessFlags := 25, slot := 4, constantValue := 0 }, { name := "LOG2_ARRAY_SHORT_INDEX_SCALE", type := .int, accessFlags := 25, slot := 5, constantValue := 0 }, { name := "LOG2_ARRAY_INT_INDEX_SCALE", type := .int, accessFlags := 25, slot := 6, constantValue := 0 }, { name := "LOG2_ARRAY_LONG_INDEX_SCALE", type := .int, accessFlags := 25, slot := 7, constantValue := 0 }, { name := "LOG2_ARRAY_FLOAT_INDEX_SCALE", type := .int, accessFlags := 25, slot := 8, constantValue := 0 }, { name := "LOG2_ARRAY_DOUBLE_INDEX_SCALE", type := .int, accessFlags := 25, slot := 9, constantValue := 0 }, { name := "LOG2_BYTE_BIT_SIZE", type := .int, accessFlags := 26, slot := 10, constantValue := 0 }, { name := "T_BOOLEAN", type := .int, accessFlags := 25, slot := 11, constantValue := 0 }, { name := "T_CHAR", type := .int, accessFlags := 25, slot := 12, constantValue := 0 }, { name := "T_FLOAT", type := .int, accessFlags := 25, slot := 13, constantValue := 0 }, { name := "T_DOUBLE", type := .int, accessFlags := 25, slot := 14, constantValue := 0 }, { name := "T_BYTE", type := .int, accessFlags := 25, slot := 15, constantValue := 0 }, { name := "T_SHORT", type := .int, accessFlags := 25, slot := 16, constantValue := 0 }, { name := "T_INT", type := .int, accessFlags := 25, slot := 17, constantValue := 0 }, { name := "T_LONG", type := .int, accessFlags := 25, slot := 18, constantValue := 0 }, { name := "JLA", type := (.object "jdk/internal/access/JavaLangAccess"), accessFlags := 26, slot := 19, constantValue := 0 }, { name := "SOFT_MAX_ARRAY_LENGTH", type := .int, accessFlags := 25, slot := 20, constantValue := 0 }]
  methods := #[k20m0]
  instanceTypes := #[]
  staticTypes := #[(.object "jdk/internal/misc/Unsafe"), .boolean, .int, .int, .int, .int, .int, .int, .int, .int, .int, .int, .int, .int, .int, .int, .int, .int, .int, (.object "jdk/internal/access/JavaLangAccess"), .int]
  resolved := Array.replicate 378 none
  statics := none }

def pool21 : Array CpInfo := pool [(1, u "java/lang/Cloneable"), (0, .class_ 1), (0, u "java/lang/Object"), (0, .class_ 3)] 3

/-- java/lang/Cloneable -/
def k21 : Class := { plain "java/lang/Cloneable" (some 0) with
  accessFlags := 1537
  interfaces := #[]
  cf := some (fileOf pool21 2 #[] #[] 1537 4 #[] #[])
  fields := #[]
  methods := #[]
  instanceTypes := #[]
  staticTypes := #[]
  resolved := Array.replicate 8 none
  statics := none }

/-- the primitive byte -/
def k22 : Class := { plain "byte" none with kind := .primitive 'B', accessFlags := 0x411 }
/-- [B -/
def k23 : Class := { plain "[B" (some 0) with kind := .array 22 .byte, interfaces := #[21, 2], accessFlags := 1041 }

/-- the primitive char -/
def k24 : Class := { plain "char" none with kind := .primitive 'C', accessFlags := 0x411 }
/-- [C -/
def k25 : Class := { plain "[C" (some 0) with kind := .array 24 .char, interfaces := #[21, 2], accessFlags := 1041 }

/-- the primitive int -/
def k26 : Class := { plain "int" none with kind := .primitive 'I', accessFlags := 0x411 }
/-- [I -/
def k27 : Class := { plain "[I" (some 0) with kind := .array 26 .int, interfaces := #[21, 2], accessFlags := 1041 }

/-- [Ljava/lang/Integer; -/
def k28 : Class := { plain "[Ljava/lang/Integer;" (some 0) with kind := .array 13 (.object "java/lang/Integer"), interfaces := #[21, 2], accessFlags := 1041 }

def heap : Heap := #[{ cls := 7, slots := #[.long 0, .int 1, .null, .int 0, .null, .int 0, .int 0], vm := .statics 7 },
  { cls := 11, slots := #[.ref 261], vm := .statics 11 },
  { cls := 14, slots := #[.int 0, .int 127, .ref 4, .null, .int 0], vm := .statics 14 },
  { cls := 19, slots := #[.null, .null, .null], vm := .statics 19 },
  { cls := 28, slots := #[.ref 5, .ref 6, .ref 7, .ref 8, .ref 9, .ref 10, .ref 11, .ref 12, .ref 13, .ref 14, .ref 15, .ref 16, .ref 17, .ref 18, .ref 19, .ref 20, .ref 21, .ref 22, .ref 23, .ref 24, .ref 25, .ref 26, .ref 27, .ref 28, .ref 29, .ref 30, .ref 31, .ref 32, .ref 33, .ref 34, .ref 35, .ref 36, .ref 37, .ref 38, .ref 39, .ref 40, .ref 41, .ref 42, .ref 43, .ref 44, .ref 45, .ref 46, .ref 47, .ref 48, .ref 49, .ref 50, .ref 51, .ref 52, .ref 53, .ref 54, .ref 55, .ref 56, .ref 57, .ref 58, .ref 59, .ref 60, .ref 61, .ref 62, .ref 63, .ref 64, .ref 65, .ref 66, .ref 67, .ref 68, .ref 69, .ref 70, .ref 71, .ref 72, .ref 73, .ref 74, .ref 75, .ref 76, .ref 77, .ref 78, .ref 79, .ref 80, .ref 81, .ref 82, .ref 83, .ref 84, .ref 85, .ref 86, .ref 87, .ref 88, .ref 89, .ref 90, .ref 91, .ref 92, .ref 93, .ref 94, .ref 95, .ref 96, .ref 97, .ref 98, .ref 99, .ref 100, .ref 101, .ref 102, .ref 103, .ref 104, .ref 105, .ref 106, .ref 107, .ref 108, .ref 109, .ref 110, .ref 111, .ref 112, .ref 113, .ref 114, .ref 115, .ref 116, .ref 117, .ref 118, .ref 119, .ref 120, .ref 121, .ref 122, .ref 123, .ref 124, .ref 125, .ref 126, .ref 127, .ref 128, .ref 129, .ref 130, .ref 131, .ref 132, .ref 133, .ref 134, .ref 135, .ref 136, .ref 137, .ref 138, .ref 139, .ref 140, .ref 141, .ref 142, .ref 143, .ref 144, .ref 145, .ref 146, .ref 147, .ref 148, .ref 149, .ref 150, .ref 151, .ref 152, .ref 153, .ref 154, .ref 155, .ref 156, .ref 157, .ref 158, .ref 159, .ref 160, .ref 161, .ref 162, .ref 163, .ref 164, .ref 165, .ref 166, .ref 167, .ref 168, .ref 169, .ref 170, .ref 171, .ref 172, .ref 173, .ref 174, .ref 175, .ref 176, .ref 177, .ref 178, .ref 179, .ref 180, .ref 181, .ref 182, .ref 183, .ref 184, .ref 185, .ref 186, .ref 187, .ref 188, .ref 189, .ref 190, .ref 191, .ref 192, .ref 193, .ref 194, .ref 195, .ref 196, .ref 197, .ref 198, .ref 199, .ref 200, .ref 201, .ref 202, .ref 203, .ref 204, .ref 205, .ref 206, .ref 207, .ref 208, .ref 209, .ref 210, .ref 211, .ref 212, .ref 213, .ref 214, .ref 215, .ref 216, .ref 217, .ref 218, .ref 219, .ref 220, .ref 221, .ref 222, .ref 223, .ref 224, .ref 225, .ref 226, .ref 227, .ref 228, .ref 229, .ref 230, .ref 231, .ref 232, .ref 233, .ref 234, .ref 235, .ref 236, .ref 237, .ref 238, .ref 239, .ref 240, .ref 241, .ref 242, .ref 243, .ref 244, .ref 245, .ref 246, .ref 247, .ref 248, .ref 249, .ref 250, .ref 251, .ref 252, .ref 253, .ref 254, .ref 255, .ref 256, .ref 257, .ref 258, .ref 259, .ref 260], vm := .none },
  { cls := 13, slots := #[.int (-128)], vm := .none },
  { cls := 13, slots := #[.int (-127)], vm := .none },
  { cls := 13, slots := #[.int (-126)], vm := .none },
  { cls := 13, slots := #[.int (-125)], vm := .none },
  { cls := 13, slots := #[.int (-124)], vm := .none },
  { cls := 13, slots := #[.int (-123)], vm := .none },
  { cls := 13, slots := #[.int (-122)], vm := .none },
  { cls := 13, slots := #[.int (-121)], vm := .none },
  { cls := 13, slots := #[.int (-120)], vm := .none },
  { cls := 13, slots := #[.int (-119)], vm := .none },
  { cls := 13, slots := #[.int (-118)], vm := .none },
  { cls := 13, slots := #[.int (-117)], vm := .none },
  { cls := 13, slots := #[.int (-116)], vm := .none },
  { cls := 13, slots := #[.int (-115)], vm := .none },
  { cls := 13, slots := #[.int (-114)], vm := .none },
  { cls := 13, slots := #[.int (-113)], vm := .none },
  { cls := 13, slots := #[.int (-112)], vm := .none },
  { cls := 13, slots := #[.int (-111)], vm := .none },
  { cls := 13, slots := #[.int (-110)], vm := .none },
  { cls := 13, slots := #[.int (-109)], vm := .none },
  { cls := 13, slots := #[.int (-108)], vm := .none },
  { cls := 13, slots := #[.int (-107)], vm := .none },
  { cls := 13, slots := #[.int (-106)], vm := .none },
  { cls := 13, slots := #[.int (-105)], vm := .none },
  { cls := 13, slots := #[.int (-104)], vm := .none },
  { cls := 13, slots := #[.int (-103)], vm := .none },
  { cls := 13, slots := #[.int (-102)], vm := .none },
  { cls := 13, slots := #[.int (-101)], vm := .none },
  { cls := 13, slots := #[.int (-100)], vm := .none },
  { cls := 13, slots := #[.int (-99)], vm := .none },
  { cls := 13, slots := #[.int (-98)], vm := .none },
  { cls := 13, slots := #[.int (-97)], vm := .none },
  { cls := 13, slots := #[.int (-96)], vm := .none },
  { cls := 13, slots := #[.int (-95)], vm := .none },
  { cls := 13, slots := #[.int (-94)], vm := .none },
  { cls := 13, slots := #[.int (-93)], vm := .none },
  { cls := 13, slots := #[.int (-92)], vm := .none },
  { cls := 13, slots := #[.int (-91)], vm := .none },
  { cls := 13, slots := #[.int (-90)], vm := .none },
  { cls := 13, slots := #[.int (-89)], vm := .none },
  { cls := 13, slots := #[.int (-88)], vm := .none },
  { cls := 13, slots := #[.int (-87)], vm := .none },
  { cls := 13, slots := #[.int (-86)], vm := .none },
  { cls := 13, slots := #[.int (-85)], vm := .none },
  { cls := 13, slots := #[.int (-84)], vm := .none },
  { cls := 13, slots := #[.int (-83)], vm := .none },
  { cls := 13, slots := #[.int (-82)], vm := .none },
  { cls := 13, slots := #[.int (-81)], vm := .none },
  { cls := 13, slots := #[.int (-80)], vm := .none },
  { cls := 13, slots := #[.int (-79)], vm := .none },
  { cls := 13, slots := #[.int (-78)], vm := .none },
  { cls := 13, slots := #[.int (-77)], vm := .none },
  { cls := 13, slots := #[.int (-76)], vm := .none },
  { cls := 13, slots := #[.int (-75)], vm := .none },
  { cls := 13, slots := #[.int (-74)], vm := .none },
  { cls := 13, slots := #[.int (-73)], vm := .none },
  { cls := 13, slots := #[.int (-72)], vm := .none },
  { cls := 13, slots := #[.int (-71)], vm := .none },
  { cls := 13, slots := #[.int (-70)], vm := .none },
  { cls := 13, slots := #[.int (-69)], vm := .none },
  { cls := 13, slots := #[.int (-68)], vm := .none },
  { cls := 13, slots := #[.int (-67)], vm := .none },
  { cls := 13, slots := #[.int (-66)], vm := .none },
  { cls := 13, slots := #[.int (-65)], vm := .none },
  { cls := 13, slots := #[.int (-64)], vm := .none },
  { cls := 13, slots := #[.int (-63)], vm := .none },
  { cls := 13, slots := #[.int (-62)], vm := .none },
  { cls := 13, slots := #[.int (-61)], vm := .none },
  { cls := 13, slots := #[.int (-60)], vm := .none },
  { cls := 13, slots := #[.int (-59)], vm := .none },
  { cls := 13, slots := #[.int (-58)], vm := .none },
  { cls := 13, slots := #[.int (-57)], vm := .none },
  { cls := 13, slots := #[.int (-56)], vm := .none },
  { cls := 13, slots := #[.int (-55)], vm := .none },
  { cls := 13, slots := #[.int (-54)], vm := .none },
  { cls := 13, slots := #[.int (-53)], vm := .none },
  { cls := 13, slots := #[.int (-52)], vm := .none },
  { cls := 13, slots := #[.int (-51)], vm := .none },
  { cls := 13, slots := #[.int (-50)], vm := .none },
  { cls := 13, slots := #[.int (-49)], vm := .none },
  { cls := 13, slots := #[.int (-48)], vm := .none },
  { cls := 13, slots := #[.int (-47)], vm := .none },
  { cls := 13, slots := #[.int (-46)], vm := .none },
  { cls := 13, slots := #[.int (-45)], vm := .none },
  { cls := 13, slots := #[.int (-44)], vm := .none },
  { cls := 13, slots := #[.int (-43)], vm := .none },
  { cls := 13, slots := #[.int (-42)], vm := .none },
  { cls := 13, slots := #[.int (-41)], vm := .none },
  { cls := 13, slots := #[.int (-40)], vm := .none },
  { cls := 13, slots := #[.int (-39)], vm := .none },
  { cls := 13, slots := #[.int (-38)], vm := .none },
  { cls := 13, slots := #[.int (-37)], vm := .none },
  { cls := 13, slots := #[.int (-36)], vm := .none },
  { cls := 13, slots := #[.int (-35)], vm := .none },
  { cls := 13, slots := #[.int (-34)], vm := .none },
  { cls := 13, slots := #[.int (-33)], vm := .none },
  { cls := 13, slots := #[.int (-32)], vm := .none },
  { cls := 13, slots := #[.int (-31)], vm := .none },
  { cls := 13, slots := #[.int (-30)], vm := .none },
  { cls := 13, slots := #[.int (-29)], vm := .none },
  { cls := 13, slots := #[.int (-28)], vm := .none },
  { cls := 13, slots := #[.int (-27)], vm := .none },
  { cls := 13, slots := #[.int (-26)], vm := .none },
  { cls := 13, slots := #[.int (-25)], vm := .none },
  { cls := 13, slots := #[.int (-24)], vm := .none },
  { cls := 13, slots := #[.int (-23)], vm := .none },
  { cls := 13, slots := #[.int (-22)], vm := .none },
  { cls := 13, slots := #[.int (-21)], vm := .none },
  { cls := 13, slots := #[.int (-20)], vm := .none },
  { cls := 13, slots := #[.int (-19)], vm := .none },
  { cls := 13, slots := #[.int (-18)], vm := .none },
  { cls := 13, slots := #[.int (-17)], vm := .none },
  { cls := 13, slots := #[.int (-16)], vm := .none },
  { cls := 13, slots := #[.int (-15)], vm := .none },
  { cls := 13, slots := #[.int (-14)], vm := .none },
  { cls := 13, slots := #[.int (-13)], vm := .none },
  { cls := 13, slots := #[.int (-12)], vm := .none },
  { cls := 13, slots := #[.int (-11)], vm := .none },
  { cls := 13, slots := #[.int (-10)], vm := .none },
  { cls := 13, slots := #[.int (-9)], vm := .none },
  { cls := 13, slots := #[.int (-8)], vm := .none },
  { cls := 13, slots := #[.int (-7)], vm := .none },
  { cls := 13, slots := #[.int (-6)], vm := .none },
  { cls := 13, slots := #[.int (-5)], vm := .none },
  { cls := 13, slots := #[.int (-4)], vm := .none },
  { cls := 13, slots := #[.int (-3)], vm := .none },
  { cls := 13, slots := #[.int (-2)], vm := .none },
  { cls := 13, slots := #[.int (-1)], vm := .none },
  { cls := 13, slots := #[.int 0], vm := .none },
  { cls := 13, slots := #[.int 1], vm := .none },
  { cls := 13, slots := #[.int 2], vm := .none },
  { cls := 13, slots := #[.int 3], vm := .none },
  { cls := 13, slots := #[.int 4], vm := .none },
  { cls := 13, slots := #[.int 5], vm := .none },
  { cls := 13, slots := #[.int 6], vm := .none },
  { cls := 13, slots := #[.int 7], vm := .none },
  { cls := 13, slots := #[.int 8], vm := .none },
  { cls := 13, slots := #[.int 9], vm := .none },
  { cls := 13, slots := #[.int 10], vm := .none },
  { cls := 13, slots := #[.int 11], vm := .none },
  { cls := 13, slots := #[.int 12], vm := .none },
  { cls := 13, slots := #[.int 13], vm := .none },
  { cls := 13, slots := #[.int 14], vm := .none },
  { cls := 13, slots := #[.int 15], vm := .none },
  { cls := 13, slots := #[.int 16], vm := .none },
  { cls := 13, slots := #[.int 17], vm := .none },
  { cls := 13, slots := #[.int 18], vm := .none },
  { cls := 13, slots := #[.int 19], vm := .none },
  { cls := 13, slots := #[.int 20], vm := .none },
  { cls := 13, slots := #[.int 21], vm := .none },
  { cls := 13, slots := #[.int 22], vm := .none },
  { cls := 13, slots := #[.int 23], vm := .none },
  { cls := 13, slots := #[.int 24], vm := .none },
  { cls := 13, slots := #[.int 25], vm := .none },
  { cls := 13, slots := #[.int 26], vm := .none },
  { cls := 13, slots := #[.int 27], vm := .none },
  { cls := 13, slots := #[.int 28], vm := .none },
  { cls := 13, slots := #[.int 29], vm := .none },
  { cls := 13, slots := #[.int 30], vm := .none },
  { cls := 13, slots := #[.int 31], vm := .none },
  { cls := 13, slots := #[.int 32], vm := .none },
  { cls := 13, slots := #[.int 33], vm := .none },
  { cls := 13, slots := #[.int 34], vm := .none },
  { cls := 13, slots := #[.int 35], vm := .none },
  { cls := 13, slots := #[.int 36], vm := .none },
  { cls := 13, slots := #[.int 37], vm := .none },
  { cls := 13, slots := #[.int 38], vm := .none },
  { cls := 13, slots := #[.int 39], vm := .none },
  { cls := 13, slots := #[.int 40], vm := .none },
  { cls := 13, slots := #[.int 41], vm := .none },
  { cls := 13, slots := #[.int 42], vm := .none },
  { cls := 13, slots := #[.int 43], vm := .none },
  { cls := 13, slots := #[.int 44], vm := .none },
  { cls := 13, slots := #[.int 45], vm := .none },
  { cls := 13, slots := #[.int 46], vm := .none },
  { cls := 13, slots := #[.int 47], vm := .none },
  { cls := 13, slots := #[.int 48], vm := .none },
  { cls := 13, slots := #[.int 49], vm := .none },
  { cls := 13, slots := #[.int 50], vm := .none },
  { cls := 13, slots := #[.int 51], vm := .none },
  { cls := 13, slots := #[.int 52], vm := .none },
  { cls := 13, slots := #[.int 53], vm := .none },
  { cls := 13, slots := #[.int 54], vm := .none },
  { cls := 13, slots := #[.int 55], vm := .none },
  { cls := 13, slots := #[.int 56], vm := .none },
  { cls := 13, slots := #[.int 57], vm := .none },
  { cls := 13, slots := #[.int 58], vm := .none },
  { cls := 13, slots := #[.int 59], vm := .none },
  { cls := 13, slots := #[.int 60], vm := .none },
  { cls := 13, slots := #[.int 61], vm := .none },
  { cls := 13, slots := #[.int 62], vm := .none },
  { cls := 13, slots := #[.int 63], vm := .none },
  { cls := 13, slots := #[.int 64], vm := .none },
  { cls := 13, slots := #[.int 65], vm := .none },
  { cls := 13, slots := #[.int 66], vm := .none },
  { cls := 13, slots := #[.int 67], vm := .none },
  { cls := 13, slots := #[.int 68], vm := .none },
  { cls := 13, slots := #[.int 69], vm := .none },
  { cls := 13, slots := #[.int 70], vm := .none },
  { cls := 13, slots := #[.int 71], vm := .none },
  { cls := 13, slots := #[.int 72], vm := .none },
  { cls := 13, slots := #[.int 73], vm := .none },
  { cls := 13, slots := #[.int 74], vm := .none },
  { cls := 13, slots := #[.int 75], vm := .none },
  { cls := 13, slots := #[.int 76], vm := .none },
  { cls := 13, slots := #[.int 77], vm := .none },
  { cls := 13, slots := #[.int 78], vm := .none },
  { cls := 13, slots := #[.int 79], vm := .none },
  { cls := 13, slots := #[.int 80], vm := .none },
  { cls := 13, slots := #[.int 81], vm := .none },
  { cls := 13, slots := #[.int 82], vm := .none },
  { cls := 13, slots := #[.int 83], vm := .none },
  { cls := 13, slots := #[.int 84], vm := .none },
  { cls := 13, slots := #[.int 85], vm := .none },
  { cls := 13, slots := #[.int 86], vm := .none },
  { cls := 13, slots := #[.int 87], vm := .none },
  { cls := 13, slots := #[.int 88], vm := .none },
  { cls := 13, slots := #[.int 89], vm := .none },
  { cls := 13, slots := #[.int 90], vm := .none },
  { cls := 13, slots := #[.int 91], vm := .none },
  { cls := 13, slots := #[.int 92], vm := .none },
  { cls := 13, slots := #[.int 93], vm := .none },
  { cls := 13, slots := #[.int 94], vm := .none },
  { cls := 13, slots := #[.int 95], vm := .none },
  { cls := 13, slots := #[.int 96], vm := .none },
  { cls := 13, slots := #[.int 97], vm := .none },
  { cls := 13, slots := #[.int 98], vm := .none },
  { cls := 13, slots := #[.int 99], vm := .none },
  { cls := 13, slots := #[.int 100], vm := .none },
  { cls := 13, slots := #[.int 101], vm := .none },
  { cls := 13, slots := #[.int 102], vm := .none },
  { cls := 13, slots := #[.int 103], vm := .none },
  { cls := 13, slots := #[.int 104], vm := .none },
  { cls := 13, slots := #[.int 105], vm := .none },
  { cls := 13, slots := #[.int 106], vm := .none },
  { cls := 13, slots := #[.int 107], vm := .none },
  { cls := 13, slots := #[.int 108], vm := .none },
  { cls := 13, slots := #[.int 109], vm := .none },
  { cls := 13, slots := #[.int 110], vm := .none },
  { cls := 13, slots := #[.int 111], vm := .none },
  { cls := 13, slots := #[.int 112], vm := .none },
  { cls := 13, slots := #[.int 113], vm := .none },
  { cls := 13, slots := #[.int 114], vm := .none },
  { cls := 13, slots := #[.int 115], vm := .none },
  { cls := 13, slots := #[.int 116], vm := .none },
  { cls := 13, slots := #[.int 117], vm := .none },
  { cls := 13, slots := #[.int 118], vm := .none },
  { cls := 13, slots := #[.int 119], vm := .none },
  { cls := 13, slots := #[.int 120], vm := .none },
  { cls := 13, slots := #[.int 121], vm := .none },
  { cls := 13, slots := #[.int 122], vm := .none },
  { cls := 13, slots := #[.int 123], vm := .none },
  { cls := 13, slots := #[.int 124], vm := .none },
  { cls := 13, slots := #[.int 125], vm := .none },
  { cls := 13, slots := #[.int 126], vm := .none },
  { cls := 13, slots := #[.int 127], vm := .none },
  { cls := 11, slots := #[.null], vm := .none }]
def classes : Array Class := #[k0, k1, k2, k3, k4, k5, k6, k7, k8, k9, k10, k11, k12, k13, k14, k15, k16, k17, k18, k19, k20, k21, k22, k23, k24, k25, k26, k27, k28]
def interned : List (Array UInt16 × Addr) := []
def slotsUsed : Nat := 529
def theMethod : MethodId := ⟨1, 2⟩
def args0 : Array Value := #[.int 1, .int 2, .int 3, .int 4, .int 5, .int 6]
def aboutOver (below : List Frame) : State where
  vm := { classes := classes, interned := interned.toArray }
  heap := heap
  slotsUsed := slotsUsed
  threads := #[{ frames := .invoking theMethod args0 :: below }]
def below0 : List Frame := [.native { method := ⟨0, 0⟩, args := #[] }]
def about1 : State := aboutOver below0
def p0 : Program := .bare "" "" ""
def e0 : Env := launch0.env 0 0 0
theorem w_frames : about1.frames = Frame.invoking theMethod args0 :: below0 := rfl
set_option maxRecDepth 65536 in
theorem w_args : argsFit about1.vm theMethod args0 = true := by decide +kernel
set_option maxRecDepth 65536 in
theorem w_heap : heapFits about1 = true := by decide +kernel
set_option maxRecDepth 65536 in
theorem w_runnable : about1.curStatus? = some .runnable := by decide +kernel
set_option maxRecDepth 65536 in
theorem w_alone : about1.alone = true := by decide +kernel
set_option maxRecDepth 65536 in
theorem w_named : about1.methodNamed? x = some theMethod := by decide +kernel
set_option maxRecDepth 65536 in
theorem w_hears : about1.hears theMethod below0 = true := by decide +kernel
set_option maxRecDepth 65536 in
theorem w_ripe : about1.ripe theMethod args0 below0 = true := by decide +kernel
theorem w_running : about1.status = .running := rfl
set_option maxRecDepth 65536 in
theorem w_room : about1.hasRoom e0.platform room_1 = true :=
  launch0.hasRoom_least _ room_1 (by decide +kernel) (by decide +kernel) (by decide +kernel) (by decide +kernel) (by decide +kernel) (by decide +kernel)
theorem allAtoms_all (ts : List Jvm.Cond) (a : Array Jvm.Value) (st : Jvm.State) : (allAtoms ts).before a st = ts.all (fun c => c.before a st) := by
  induction ts with
  | nil => rfl
  | cons c t ih =>
    show (Jvm.Cond.and c (allAtoms t)).before a st = _
    rw [Jvm.Cond.before_and, ih, List.all_cons]
def words1 : List Jvm.Cond := Jvm.Cond.code x code maxLocals ret :: tables_1
/-- a 'code' word, met by the world's own term for the bytes: nothing is compared byte by byte -/
theorem code_word {y : MethodName} {bytes : ByteArray} {mx : Nat} {rt : Option FieldType} {a : Array Value} {s : State} {m : MethodId} {meth : Method} {c : Code} (h1 : s.methodNamed? y = some m) (h2 : s.vm.method? m = some meth) (h3 : meth.code = some c) (h4 : c.code = bytes)
    (h5 : (c.maxLocals == mx && c.exceptionTable.isEmpty && decide (c.maxStack ≤ mostOperands) && decide (meth.sig.returnType = rt) && !meth.locks && decide (parseMethodDescriptor y.desc = some meth.sig)) = true) : (Jvm.Cond.code y bytes mx rt).before a s = true := by
  simp only [Bool.and_eq_true, beq_iff_eq, Bool.not_eq_true', decide_eq_true_eq] at h5
  obtain ⟨⟨⟨⟨⟨g1, g2⟩, g3⟩, g4⟩, g5⟩, g6⟩ := h5
  simp [Cond.before, Cond.holds, Cond.value, h1, h2, h3, h4, g1, g2, g3, g4, g5, g6]
def isCode : Jvm.Cond → Bool
  | .code _ _ _ _ => true
  | _ => false
theorem all_split {L : List Jvm.Cond} {P : Jvm.Cond → Bool} (h1 : L.all (fun c => isCode c || P c) = true) (h2 : ∀ c ∈ L.filter isCode, P c = true) : L.all P = true := by
  refine List.all_eq_true.mpr fun c hc => ?_
  have h := List.all_eq_true.mp h1 c hc
  rcases Bool.eq_false_or_eq_true (isCode c) with hi | hi
  · exact h2 c (List.mem_filter.mpr ⟨hc, hi⟩)
  · simpa [hi] using h
set_option maxRecDepth 65536 in
theorem w_c0 : (Jvm.Cond.code x code maxLocals ret).before args0 about1 = true := code_word (m := ⟨1, 2⟩) (meth := k1m2) (c := k1c2) (by decide +kernel) rfl rfl rfl (by decide +kernel)
set_option maxRecDepth 65536 in
theorem w_c1 : (Jvm.Cond.code ({ cls := "com/example/vestledger/vestledger/plan/PartOfCompanyStockPinLaw", name := "two", desc := "(I)Ljava/lang/String;" } : Jvm.MethodName) method_2_code (2 : Nat) (Option.some (Jvm.ClassFile.FieldType.object "java/lang/String"))).before args0 about1 = true := code_word (m := ⟨1, 1⟩) (meth := k1m1) (c := k1c1) (by decide +kernel) rfl rfl rfl (by decide +kernel)
set_option maxRecDepth 65536 in
theorem w_c2 : (Jvm.Cond.code ({ cls := "java/lang/String", name := "<init>", desc := "([C)V" } : Jvm.MethodName) jdk_42_method_3_code (2 : Nat) (Option.none : Option Jvm.ClassFile.FieldType)).before args0 about1 = true := code_word (m := ⟨7, 1⟩) (meth := k7m1) (c := k7c1) (by decide +kernel) rfl rfl rfl (by decide +kernel)
set_option maxRecDepth 65536 in
theorem w_c3 : (Jvm.Cond.code ({ cls := "java/lang/String", name := "<init>", desc := "([CIILjava/lang/Void;)V" } : Jvm.MethodName) jdk_42_method_149_code (6 : Nat) (Option.none : Option Jvm.ClassFile.FieldType)).before args0 about1 = true := code_word (m := ⟨7, 3⟩) (meth := k7m3) (c := k7c3) (by decide +kernel) rfl rfl rfl (by decide +kernel)
set_option maxRecDepth 65536 in
theorem w_c4 : (Jvm.Cond.code ({ cls := "java/lang/Object", name := "<init>", desc := "()V" } : Jvm.MethodName) object_method_1_code (1 : Nat) (Option.none : Option Jvm.ClassFile.FieldType)).before args0 about1 = true := code_word (m := ⟨0, 0⟩) (meth := k0m0) (c := k0c0) (by decide +kernel) rfl rfl rfl (by decide +kernel)
set_option maxRecDepth 65536 in
theorem w_c5 : (Jvm.Cond.code ({ cls := "java/lang/StringUTF16", name := "compress", desc := "([CII)[B" } : Jvm.MethodName) jdk_52_method_16_code (6 : Nat) (Option.some (Jvm.ClassFile.FieldType.array Jvm.ClassFile.FieldType.byte))).before args0 about1 = true := code_word (m := ⟨8, 2⟩) (meth := k8m2) (c := k8c2) (by decide +kernel) rfl rfl rfl (by decide +kernel)
set_option maxRecDepth 65536 in
theorem w_c6 : (Jvm.Cond.code ({ cls := "java/lang/StringUTF16", name := "compress", desc := "([CI[BII)I" } : Jvm.MethodName) jdk_52_method_21_code (7 : Nat) (Option.some Jvm.ClassFile.FieldType.int)).before args0 about1 = true := code_word (m := ⟨8, 3⟩) (meth := k8m3) (c := k8c3) (by decide +kernel) rfl rfl rfl (by decide +kernel)
set_option maxRecDepth 65536 in
theorem w_c7 : (Jvm.Cond.code ({ cls := "java/lang/StringUTF16", name := "coderFromArrayLen", desc := "([BI)B" } : Jvm.MethodName) jdk_52_method_15_code (2 : Nat) (Option.some Jvm.ClassFile.FieldType.byte)).before args0 about1 = true := code_word (m := ⟨8, 1⟩) (meth := k8m1) (c := k8c1) (by decide +kernel) rfl rfl rfl (by decide +kernel)
set_option maxRecDepth 65536 in
theorem w_c8 : (Jvm.Cond.code ({ cls := "java/util/Optional", name := "empty", desc := "()Ljava/util/Optional;" } : Jvm.MethodName) jdk_32_method_1_code (1 : Nat) (Option.some (Jvm.ClassFile.FieldType.object "java/util/Optional"))).before args0 about1 = true := code_word (m := ⟨11, 0⟩) (meth := k11m0) (c := k11c0) (by decide +kernel) rfl rfl rfl (by decide +kernel)
set_option maxRecDepth 65536 in
theorem w_c9 : (Jvm.Cond.code ({ cls := "com/example/vestledger/vestledger/plan/Fund", name := "<init>", desc := "(ILjava/lang/String;Ljava/lang/String;Ljava/util/Optional;ZI)V" } : Jvm.MethodName) prog_57_method_1_code (7 : Nat) (Option.none : Option Jvm.ClassFile.FieldType)).before args0 about1 = true := code_word (m := ⟨10, 0⟩) (meth := k10m0) (c := k10c0) (by decide +kernel) rfl rfl rfl (by decide +kernel)
set_option maxRecDepth 65536 in
theorem w_c10 : (Jvm.Cond.code ({ cls := "java/lang/Record", name := "<init>", desc := "()V" } : Jvm.MethodName) jdk_30_method_1_code (1 : Nat) (Option.none : Option Jvm.ClassFile.FieldType)).before args0 about1 = true := code_word (m := ⟨9, 0⟩) (meth := k9m0) (c := k9c0) (by decide +kernel) rfl rfl rfl (by decide +kernel)
set_option maxRecDepth 65536 in
theorem w_c11 : (Jvm.Cond.code ({ cls := "java/lang/Integer", name := "valueOf", desc := "(I)Ljava/lang/Integer;" } : Jvm.MethodName) jdk_33_method_22_code (1 : Nat) (Option.some (Jvm.ClassFile.FieldType.object "java/lang/Integer"))).before args0 about1 = true := code_word (m := ⟨13, 0⟩) (meth := k13m0) (c := k13c0) (by decide +kernel) rfl rfl rfl (by decide +kernel)
set_option maxRecDepth 65536 in
theorem w_c12 : (Jvm.Cond.code ({ cls := "java/util/Optional", name := "of", desc := "(Ljava/lang/Object;)Ljava/util/Optional;" } : Jvm.MethodName) jdk_32_method_3_code (1 : Nat) (Option.some (Jvm.ClassFile.FieldType.object "java/util/Optional"))).before args0 about1 = true := code_word (m := ⟨11, 2⟩) (meth := k11m2) (c := k11c2) (by decide +kernel) rfl rfl rfl (by decide +kernel)
set_option maxRecDepth 65536 in
theorem w_c13 : (Jvm.Cond.code ({ cls := "java/util/Objects", name := "requireNonNull", desc := "(Ljava/lang/Object;)Ljava/lang/Object;" } : Jvm.MethodName) jdk_31_method_10_code (1 : Nat) (Option.some (Jvm.ClassFile.FieldType.object "java/lang/Object"))).before args0 about1 = true := code_word (m := ⟨15, 1⟩) (meth := k15m1) (c := k15c1) (by decide +kernel) rfl rfl rfl (by decide +kernel)
set_option maxRecDepth 65536 in
theorem w_c14 : (Jvm.Cond.code ({ cls := "java/util/Optional", name := "<init>", desc := "(Ljava/lang/Object;)V" } : Jvm.MethodName) jdk_32_method_2_code (2 : Nat) (Option.none : Option Jvm.ClassFile.FieldType)).before args0 about1 = true := code_word (m := ⟨11, 1⟩) (meth := k11m1) (c := k11c1) (by decide +kernel) rfl rfl rfl (by decide +kernel)
set_option maxRecDepth 65536 in
theorem w_c15 : (Jvm.Cond.code ({ cls := "com/example/vestledger/vestledger/plan/PaymentElection", name := "<init>", desc := "(Lcom/example/vestledger/vestledger/plan/PaymentForm;I)V" } : Jvm.MethodName) prog_70_method_1_code (3 : Nat) (Option.none : Option Jvm.ClassFile.FieldType)).before args0 about1 = true := code_word (m := ⟨16, 0⟩) (meth := k16m0) (c := k16c0) (by decide +kernel) rfl rfl rfl (by decide +kernel)
set_option maxRecDepth 65536 in
theorem w_c16 : (Jvm.Cond.code ({ cls := "com/example/vestledger/vestledger/plan/Elections$Part", name := "<init>", desc := "(Ljava/util/Optional;Ljava/util/Optional;Ljava/util/Optional;)V" } : Jvm.MethodName) prog_53_method_1_code (4 : Nat) (Option.none : Option Jvm.ClassFile.FieldType)).before args0 about1 = true := code_word (m := ⟨17, 0⟩) (meth := k17m0) (c := k17c0) (by decide +kernel) rfl rfl rfl (by decide +kernel)
set_option maxRecDepth 65536 in
theorem w_c17 : (Jvm.Cond.code ({ cls := "com/example/vestledger/vestledger/plan/Elections$Part", name := "ofCompanyStock", desc := "(Lcom/example/vestledger/vestledger/plan/Fund;)Lcom/example/vestledger/vestledger/plan/Elections$Part;" } : Jvm.MethodName) prog_53_method_2_code (2 : Nat) (Option.some (Jvm.ClassFile.FieldType.object "com/example/vestledger/vestledger/plan/Elections$Part"))).before args0 about1 = true := code_word (m := ⟨17, 1⟩) (meth := k17m1) (c := k17c1) (by decide +kernel) rfl rfl rfl (by decide +kernel)
set_option maxRecDepth 65536 in
theorem w_c18 : (Jvm.Cond.code ({ cls := "com/example/vestledger/vestledger/plan/Elections$Part", name := "companyStock", desc := "()Ljava/util/Optional;" } : Jvm.MethodName) prog_53_method_8_code (1 : Nat) (Option.some (Jvm.ClassFile.FieldType.object "java/util/Optional"))).before args0 about1 = true := code_word (m := ⟨17, 4⟩) (meth := k17m4) (c := k17c4) (by decide +kernel) rfl rfl rfl (by decide +kernel)
set_option maxRecDepth 65536 in
theorem w_c19 : (Jvm.Cond.code ({ cls := "com/example/vestledger/vestledger/plan/Elections$Part", name := "planYear", desc := "()Ljava/util/Optional;" } : Jvm.MethodName) prog_53_method_6_code (1 : Nat) (Option.some (Jvm.ClassFile.FieldType.object "java/util/Optional"))).before args0 about1 = true := code_word (m := ⟨17, 2⟩) (meth := k17m2) (c := k17c2) (by decide +kernel) rfl rfl rfl (by decide +kernel)
set_option maxRecDepth 65536 in
theorem w_c20 : (Jvm.Cond.code ({ cls := "java/util/Optional", name := "equals", desc := "(Ljava/lang/Object;)Z" } : Jvm.MethodName) jdk_32_method_19_code (3 : Nat) (Option.some Jvm.ClassFile.FieldType.boolean)).before args0 about1 = true := code_word (m := ⟨11, 5⟩) (meth := k11m5) (c := k11c5) (by decide +kernel) rfl rfl rfl (by decide +kernel)
set_option maxRecDepth 65536 in
theorem w_c21 : (Jvm.Cond.code ({ cls := "com/example/vestledger/vestledger/plan/Elections$Part", name := "payment", desc := "()Ljava/util/Optional;" } : Jvm.MethodName) prog_53_method_7_code (1 : Nat) (Option.some (Jvm.ClassFile.FieldType.object "java/util/Optional"))).before args0 about1 = true := code_word (m := ⟨17, 3⟩) (meth := k17m3) (c := k17c3) (by decide +kernel) rfl rfl rfl (by decide +kernel)
set_option maxRecDepth 65536 in
theorem w_c22 : (Jvm.Cond.code ({ cls := "java/util/Optional", name := "isPresent", desc := "()Z" } : Jvm.MethodName) jdk_32_method_6_code (1 : Nat) (Option.some Jvm.ClassFile.FieldType.boolean)).before args0 about1 = true := code_word (m := ⟨11, 4⟩) (meth := k11m4) (c := k11c4) (by decide +kernel) rfl rfl rfl (by decide +kernel)
set_option maxRecDepth 65536 in
theorem w_c23 : (Jvm.Cond.code ({ cls := "java/util/Optional", name := "get", desc := "()Ljava/lang/Object;" } : Jvm.MethodName) jdk_32_method_5_code (1 : Nat) (Option.some (Jvm.ClassFile.FieldType.object "java/lang/Object"))).before args0 about1 = true := code_word (m := ⟨11, 3⟩) (meth := k11m3) (c := k11c3) (by decide +kernel) rfl rfl rfl (by decide +kernel)
set_option maxRecDepth 65536 in
theorem w_c24 : (Jvm.Cond.code ({ cls := "com/example/vestledger/vestledger/plan/Fund", name := "equals", desc := "(Ljava/lang/Object;)Z" } : Jvm.MethodName) prog_57_method_2_code (3 : Nat) (Option.some Jvm.ClassFile.FieldType.boolean)).before args0 about1 = true := code_word (m := ⟨10, 1⟩) (meth := k10m1) (c := k10c1) (by decide +kernel) rfl rfl rfl (by decide +kernel)
set_option maxRecDepth 65536 in
theorem w_c25 : (Jvm.Cond.code ({ cls := "java/lang/String", name := "equals", desc := "(Ljava/lang/Object;)Z" } : Jvm.MethodName) jdk_42_method_66_code (3 : Nat) (Option.some Jvm.ClassFile.FieldType.boolean)).before args0 about1 = true := code_word (m := ⟨7, 2⟩) (meth := k7m2) (c := k7c2) (by decide +kernel) rfl rfl rfl (by decide +kernel)
set_option maxRecDepth 65536 in
theorem w_c26 : (Jvm.Cond.code ({ cls := "java/lang/Integer", name := "<init>", desc := "(I)V" } : Jvm.MethodName) jdk_33_method_23_code (2 : Nat) (Option.none : Option Jvm.ClassFile.FieldType)).before args0 about1 = true := code_word (m := ⟨13, 1⟩) (meth := k13m1) (c := k13c1) (by decide +kernel) rfl rfl rfl (by decide +kernel)
set_option maxRecDepth 65536 in
theorem w_c27 : (Jvm.Cond.code ({ cls := "java/lang/Number", name := "<init>", desc := "()V" } : Jvm.MethodName) jdk_18_method_1_code (1 : Nat) (Option.none : Option Jvm.ClassFile.FieldType)).before args0 about1 = true := code_word (m := ⟨12, 0⟩) (meth := k12m0) (c := k12c0) (by decide +kernel) rfl rfl rfl (by decide +kernel)
def codes1 : List Jvm.Cond := [Jvm.Cond.code x code maxLocals ret, Jvm.Cond.code ({ cls := "com/example/vestledger/vestledger/plan/PartOfCompanyStockPinLaw", name := "two", desc := "(I)Ljava/lang/String;" } : Jvm.MethodName) method_2_code (2 : Nat) (Option.some (Jvm.ClassFile.FieldType.object "java/lang/String")), Jvm.Cond.code ({ cls := "java/lang/String", name := "<init>", desc := "([C)V" } : Jvm.MethodName) jdk_42_method_3_code (2 : Nat) (Option.none : Option Jvm.ClassFile.FieldType), Jvm.Cond.code ({ cls := "java/lang/String", name := "<init>", desc := "([CIILjava/lang/Void;)V" } : Jvm.MethodName) jdk_42_method_149_code (6 : Nat) (Option.none : Option Jvm.ClassFile.FieldType), Jvm.Cond.code ({ cls := "java/lang/Object", name := "<init>", desc := "()V" } : Jvm.MethodName) object_method_1_code (1 : Nat) (Option.none : Option Jvm.ClassFile.FieldType), Jvm.Cond.code ({ cls := "java/lang/StringUTF16", name := "compress", desc := "([CII)[B" } : Jvm.MethodName) jdk_52_method_16_code (6 : Nat) (Option.some (Jvm.ClassFile.FieldType.array Jvm.ClassFile.FieldType.byte)), Jvm.Cond.code ({ cls := "java/lang/StringUTF16", name := "compress", desc := "([CI[BII)I" } : Jvm.MethodName) jdk_52_method_21_code (7 : Nat) (Option.some Jvm.ClassFile.FieldType.int), Jvm.Cond.code ({ cls := "java/lang/StringUTF16", name := "coderFromArrayLen", desc := "([BI)B" } : Jvm.MethodName) jdk_52_method_15_code (2 : Nat) (Option.some Jvm.ClassFile.FieldType.byte), Jvm.Cond.code ({ cls := "java/util/Optional", name := "empty", desc := "()Ljava/util/Optional;" } : Jvm.MethodName) jdk_32_method_1_code (1 : Nat) (Option.some (Jvm.ClassFile.FieldType.object "java/util/Optional")), Jvm.Cond.code ({ cls := "com/example/vestledger/vestledger/plan/Fund", name := "<init>", desc := "(ILjava/lang/String;Ljava/lang/String;Ljava/util/Optional;ZI)V" } : Jvm.MethodName) prog_57_method_1_code (7 : Nat) (Option.none : Option Jvm.ClassFile.FieldType), Jvm.Cond.code ({ cls := "java/lang/Record", name := "<init>", desc := "()V" } : Jvm.MethodName) jdk_30_method_1_code (1 : Nat) (Option.none : Option Jvm.ClassFile.FieldType), Jvm.Cond.code ({ cls := "java/lang/Integer", name := "valueOf", desc := "(I)Ljava/lang/Integer;" } : Jvm.MethodName) jdk_33_method_22_code (1 : Nat) (Option.some (Jvm.ClassFile.FieldType.object "java/lang/Integer")), Jvm.Cond.code ({ cls := "java/util/Optional", name := "of", desc := "(Ljava/lang/Object;)Ljava/util/Optional;" } : Jvm.MethodName) jdk_32_method_3_code (1 : Nat) (Option.some (Jvm.ClassFile.FieldType.object "java/util/Optional")), Jvm.Cond.code ({ cls := "java/util/Objects", name := "requireNonNull", desc := "(Ljava/lang/Object;)Ljava/lang/Object;" } : Jvm.MethodName) jdk_31_method_10_code (1 : Nat) (Option.some (Jvm.ClassFile.FieldType.object "java/lang/Object")), Jvm.Cond.code ({ cls := "java/util/Optional", name := "<init>", desc := "(Ljava/lang/Object;)V" } : Jvm.MethodName) jdk_32_method_2_code (2 : Nat) (Option.none : Option Jvm.ClassFile.FieldType), Jvm.Cond.code ({ cls := "com/example/vestledger/vestledger/plan/PaymentElection", name := "<init>", desc := "(Lcom/example/vestledger/vestledger/plan/PaymentForm;I)V" } : Jvm.MethodName) prog_70_method_1_code (3 : Nat) (Option.none : Option Jvm.ClassFile.FieldType), Jvm.Cond.code ({ cls := "com/example/vestledger/vestledger/plan/Elections$Part", name := "<init>", desc := "(Ljava/util/Optional;Ljava/util/Optional;Ljava/util/Optional;)V" } : Jvm.MethodName) prog_53_method_1_code (4 : Nat) (Option.none : Option Jvm.ClassFile.FieldType), Jvm.Cond.code ({ cls := "com/example/vestledger/vestledger/plan/Elections$Part", name := "ofCompanyStock", desc := "(Lcom/example/vestledger/vestledger/plan/Fund;)Lcom/example/vestledger/vestledger/plan/Elections$Part;" } : Jvm.MethodName) prog_53_method_2_code (2 : Nat) (Option.some (Jvm.ClassFile.FieldType.object "com/example/vestledger/vestledger/plan/Elections$Part")), Jvm.Cond.code ({ cls := "com/example/vestledger/vestledger/plan/Elections$Part", name := "companyStock", desc := "()Ljava/util/Optional;" } : Jvm.MethodName) prog_53_method_8_code (1 : Nat) (Option.some (Jvm.ClassFile.FieldType.object "java/util/Optional")), Jvm.Cond.code ({ cls := "com/example/vestledger/vestledger/plan/Elections$Part", name := "planYear", desc := "()Ljava/util/Optional;" } : Jvm.MethodName) prog_53_method_6_code (1 : Nat) (Option.some (Jvm.ClassFile.FieldType.object "java/util/Optional")), Jvm.Cond.code ({ cls := "java/util/Optional", name := "equals", desc := "(Ljava/lang/Object;)Z" } : Jvm.MethodName) jdk_32_method_19_code (3 : Nat) (Option.some Jvm.ClassFile.FieldType.boolean), Jvm.Cond.code ({ cls := "com/example/vestledger/vestledger/plan/Elections$Part", name := "payment", desc := "()Ljava/util/Optional;" } : Jvm.MethodName) prog_53_method_7_code (1 : Nat) (Option.some (Jvm.ClassFile.FieldType.object "java/util/Optional")), Jvm.Cond.code ({ cls := "java/util/Optional", name := "isPresent", desc := "()Z" } : Jvm.MethodName) jdk_32_method_6_code (1 : Nat) (Option.some Jvm.ClassFile.FieldType.boolean), Jvm.Cond.code ({ cls := "java/util/Optional", name := "get", desc := "()Ljava/lang/Object;" } : Jvm.MethodName) jdk_32_method_5_code (1 : Nat) (Option.some (Jvm.ClassFile.FieldType.object "java/lang/Object")), Jvm.Cond.code ({ cls := "com/example/vestledger/vestledger/plan/Fund", name := "equals", desc := "(Ljava/lang/Object;)Z" } : Jvm.MethodName) prog_57_method_2_code (3 : Nat) (Option.some Jvm.ClassFile.FieldType.boolean), Jvm.Cond.code ({ cls := "java/lang/String", name := "equals", desc := "(Ljava/lang/Object;)Z" } : Jvm.MethodName) jdk_42_method_66_code (3 : Nat) (Option.some Jvm.ClassFile.FieldType.boolean), Jvm.Cond.code ({ cls := "java/lang/Integer", name := "<init>", desc := "(I)V" } : Jvm.MethodName) jdk_33_method_23_code (2 : Nat) (Option.none : Option Jvm.ClassFile.FieldType), Jvm.Cond.code ({ cls := "java/lang/Number", name := "<init>", desc := "()V" } : Jvm.MethodName) jdk_18_method_1_code (1 : Nat) (Option.none : Option Jvm.ClassFile.FieldType)]
set_option maxRecDepth 65536 in
theorem codes_eq : words1.filter isCode = codes1 := rfl
theorem w_codes : ∀ c ∈ words1.filter isCode, c.before args0 about1 = true := by
  rw [codes_eq]
  intro c hc
  simp only [codes1, List.mem_cons, List.not_mem_nil, or_false] at hc
  rcases hc with rfl | rfl | rfl | rfl | rfl | rfl | rfl | rfl | rfl | rfl | rfl | rfl | rfl | rfl | rfl | rfl | rfl | rfl | rfl | rfl | rfl | rfl | rfl | rfl | rfl | rfl | rfl | rfl
  · exact w_c0
  · exact w_c1
  · exact w_c2
  · exact w_c3
  · exact w_c4
  · exact w_c5
  · exact w_c6
  · exact w_c7
  · exact w_c8
  · exact w_c9
  · exact w_c10
  · exact w_c11
  · exact w_c12
  · exact w_c13
  · exact w_c14
  · exact w_c15
  · exact w_c16
  · exact w_c17
  · exact w_c18
  · exact w_c19
  · exact w_c20
  · exact w_c21
  · exact w_c22
  · exact w_c23
  · exact w_c24
  · exact w_c25
  · exact w_c26
  · exact w_c27
set_option maxRecDepth 65536 in
theorem w_t1 : (words1.take 24).all (fun c => isCode c || c.before args0 about1) = true := by decide +kernel
set_option maxRecDepth 65536 in
theorem w_t2 : ((words1.drop 24).take 24).all (fun c => isCode c || c.before args0 about1) = true := by decide +kernel
set_option maxRecDepth 65536 in
theorem w_t3 : (((words1.drop 24).drop 24).take 24).all (fun c => isCode c || c.before args0 about1) = true := by decide +kernel
set_option maxRecDepth 65536 in
theorem w_t4 : ((((words1.drop 24).drop 24).drop 24).take 24).all (fun c => isCode c || c.before args0 about1) = true := by decide +kernel
set_option maxRecDepth 65536 in
theorem w_t5 : (((((words1.drop 24).drop 24).drop 24).drop 24).take 24).all (fun c => isCode c || c.before args0 about1) = true := by decide +kernel
set_option maxRecDepth 65536 in
theorem w_t6 : ((((((words1.drop 24).drop 24).drop 24).drop 24).drop 24).take 24).all (fun c => isCode c || c.before args0 about1) = true := by decide +kernel
set_option maxRecDepth 65536 in
theorem w_t7 : (((((((words1.drop 24).drop 24).drop 24).drop 24).drop 24).drop 24).take 24).all (fun c => isCode c || c.before args0 about1) = true := by decide +kernel
set_option maxRecDepth 65536 in
theorem w_t8 : (((((((words1.drop 24).drop 24).drop 24).drop 24).drop 24).drop 24).drop 24).all (fun c => isCode c || c.before args0 about1) = true := by decide +kernel
theorem w_tables : (allAtoms (Jvm.Cond.code x code maxLocals ret :: tables_1)).before args0 about1 = true := by
  rw [allAtoms_all]
  show words1.all (fun c => c.before args0 about1) = true
  refine all_split ?_ w_codes
  rw [← List.take_append_drop 24 words1, List.all_append, w_t1, ← List.take_append_drop 24 (words1.drop 24), List.all_append, w_t2, ← List.take_append_drop 24 ((words1.drop 24).drop 24), List.all_append, w_t3, ← List.take_append_drop 24 (((words1.drop 24).drop 24).drop 24), List.all_append, w_t4, ← List.take_append_drop 24 ((((words1.drop 24).drop 24).drop 24).drop 24), List.all_append, w_t5, ← List.take_append_drop 24 (((((words1.drop 24).drop 24).drop 24).drop 24).drop 24), List.all_append, w_t6, ← List.take_append_drop 24 ((((((words1.drop 24).drop 24).drop 24).drop 24).drop 24).drop 24), List.all_append, w_t7, w_t8]
  rfl
set_option maxRecDepth 65536 in
theorem w_rest : rest_1_c.before args0 about1 = true := by decide +kernel
set_option maxRecDepth 65536 in
theorem w_case : (Jvm.Cond.and given_1 narrow_1).before args0 about1 = true := by decide +kernel
theorem w_applies : (headSpec (Jvm.Cond.code x code maxLocals ret :: tables_1) room_1).applies x e0.platform about1 = true :=
  (Spec.applies_iff w_frames).mpr ⟨w_running, w_runnable, w_alone, w_named, w_hears, w_ripe, w_room, w_tables⟩
theorem atStart : AtStart classFile x code maxLocals ret World_1 tables_1 room_1 Calls_1 rest_1 Pre_1 launch0 p0 e0 about1 theMethod args0 below0 :=
  ⟨lists_1, trivial, launch0.admits_env _ _ _, launch0.least_env, fairChoices_fair.cas, fairChoices_fair.clock, w_frames, w_args, w_heap, w_applies, trivial, w_rest, w_case⟩
end start1
theorem witness_1 : WitnessClaimed_1 := ⟨start1.p0, start1.e0, start1.about1, start1.theMethod, start1.args0, start1.below0, start1.atStart⟩
end Jvm.Pilot.@@N@@
