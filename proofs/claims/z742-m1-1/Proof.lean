import JvmDerived
import JvmDerived.Pilot.@@N@@Statement
import JvmDerived.Pilot.@@N@@Code
set_option linter.unusedVariables false
set_option linter.unusedSimpArgs false
namespace Jvm.Pilot.@@N@@
open Jvm Jvm.ClassFile Sem Op Lib Jvm.Free Jvm.Stand Jvm.LawKit Jvm.RoadKit Bundle Jvm.Pilot.@@N@@.Jvm.D
/-! 0. the walk's goal, and how a step leads to it -/
def OGoal (p : Program) (e : Env) (below : List Frame) (Φ : Outcome → State → Prop) (T : State) (g : JFrame) : Prop :=
  ∃ s₂ o, Steps p.tables e below (T.setTop g) s₂ ∧ s₂.status = .running ∧ Ended s₂ below o ∧ Φ o s₂
theorem own_by {p : Program} {e : Env} {below : List Frame} {Φ : Outcome → State → Prop} {T T' : State} {g g' : JFrame}
    (st : ∀ t, Steps p.tables e below (T'.setTop g') t → Steps p.tables e below (T.setTop g) t) (G : OGoal p e below Φ T' g') : OGoal p e below Φ T g := by
  obtain ⟨s₂, o, h1, h2⟩ := G
  exact ⟨s₂, o, st _ h1, h2⟩
theorem own_enter {p : Program} {e : Env} {below : List Frame} {Φ : Outcome → State → Prop} {T : State} {g g' : JFrame} (q : g = g') (G : OGoal p e below Φ T g') :
    ∃ s₂ o, Steps p.tables e below (T.setTop g) s₂ ∧ s₂.status = .running ∧ Ended s₂ below o ∧ Φ o s₂ := by subst q; exact G
theorem own_kext {h h' : Heap} (E : Ext h h') : Keep h h' [] := (Keep.refl h []).ext E
theorem own_narR {ty : FieldType} {v : Value} (hty : ty.isReference = true) (h : v.isRef = true) : narrow ty v = v := by
  rcases ref_cases h with rfl | ⟨a, rfl⟩ <;> cases ty <;> first | rfl | (cases hty)
theorem own_fitR {ty : FieldType} {v : Value} (hty : ty.isReference = true) (h : v.isRef = true) : fits ty v = true := by
  rcases ref_cases h with rfl | ⟨a, rfl⟩ <;> cases ty <;> first | rfl | (cases hty)
theorem own_narC (x : Int32) : nar .char (x.toUInt32.toUInt16.toUInt32.toInt32) = x.toUInt32.toUInt16.toUInt32.toInt32 := by
  show (x.toUInt32.toUInt16.toUInt32.toInt32).toUInt32.toUInt16.toUInt32.toInt32 = _
  simp only [UInt32.toUInt32_toInt32, UInt16.toUInt16_toUInt32]
theorem own_narB (x : Int32) : nar .byte (x.toInt8.toInt32) = x.toInt8.toInt32 := by
  show (x.toInt8.toInt32).toInt8.toInt32 = _
  simp
theorem own_fldI {Z : State} {args : Array Value} {t : Term} {a : Addr} {C n d : String} {k : Int32} (ev : t.eval args Z none [] Z = some (.ref a)) (h : (Jvm.Cond.eq (.field t C n d) (.int k)).value args Z none Z [] = some true) : Fld Z Z.heap a C n d (.int k) :=
  Fld.start ((fld_at ev).symm.trans (eqv_i (Term.int_eval k) h))
theorem own_fldJ {Z : State} {args : Array Value} {t : Term} {a : Addr} {C n d : String} {k : Int64} (ev : t.eval args Z none [] Z = some (.ref a)) (h : (Jvm.Cond.eq (.field t C n d) (.long k)).value args Z none Z [] = some true) : Fld Z Z.heap a C n d (.long k) :=
  Fld.start ((fld_at ev).symm.trans (eqv_l (F := .long k) rfl h))
def Glob (Z : State) (wM : Addr) (wD : Addr) : Prop := Sta Z Z.heap "java/util/concurrent/TimeUnit" "MILLISECONDS" "Ljava/util/concurrent/TimeUnit;" (.ref wM) ∧ Exa Z Z.heap wM "java/util/concurrent/TimeUnit" ∧ Fld Z Z.heap wM "java/lang/Enum" "ordinal" "I" (.int (2 : Int32)) ∧ Fld Z Z.heap wM "java/util/concurrent/TimeUnit" "scale" "J" (.long (1000000 : Int64)) ∧ Fld Z Z.heap wM "java/util/concurrent/TimeUnit" "maxNanos" "J" (.long (9223372036854 : Int64)) ∧ Sta Z Z.heap "com/example/leasy/leasy/LeaseLength" "LEAST_DRIFT" "Ljava/time/Duration;" (.ref wD) ∧ Exa Z Z.heap wD "java/time/Duration" ∧ Fld Z Z.heap wD "java/time/Duration" "seconds" "J" (.long (0 : Int64)) ∧ Fld Z Z.heap wD "java/time/Duration" "nanos" "I" (.int (2000000 : Int32))
def absF (a : Int64) : Int64 := if a < (0 : Int64) then (-a) else a
def nanoF (d : Int64) : Int64 := if (9223372036854 : Int64) < d then (9223372036854775807 : Int64) else d * (1000000 : Int64)
def tnF (m : Int64) : Int64 := nanoF m - nanoF m / (100 : Int64) - (2000000 : Int64)
theorem own_m1 (x : Int64) : 0 ≤ (x &&& (9223372036854775807 : Int64)).toInt := by
  rw [c_maskL x (9223372036854775807 : Int64) 63 (by decide) (by decide)]
  exact Int.emod_nonneg _ (by decide)
theorem own_m2 (y : Int64) (h : 0 ≤ y.toInt) : 0 ≤ (y - (y / (18446744073709 : Int64)) * (18446744073709 : Int64)).toInt := by
  rw [(c_lrem y (18446744073709 : Int64) 18446744073709 rfl).1 h]
  omega
theorem own_tn (m : Int64) (hm : 0 ≤ m.toInt) : (tnF m).toInt = (if 9223372036854 < m.toInt then 9131138316484228049 else m.toInt * 990000 - 2000000) := by
  have eL : (9223372036854 : Int64).toInt = 9223372036854 := rfl
  have eM : (9223372036854775807 : Int64).toInt = 9223372036854775807 := rfl
  have e6 : (1000000 : Int64).toInt = 1000000 := rfl
  have e2 : (2000000 : Int64).toInt = 2000000 := rfl
  have m1 := Int64.le_toInt m
  have m2 := Int64.toInt_lt m
  have hN : (nanoF m).toInt = (if 9223372036854 < m.toInt then 9223372036854775807 else m.toInt * 1000000) := by
    unfold nanoF
    by_cases h : (9223372036854 : Int64) < m
    · have h' := h; rw [Int64.lt_iff_toInt_lt, eL] at h'; simp [h, h', eM]
    · have h' := h; rw [Int64.lt_iff_toInt_lt, eL] at h'
      have c2 := c_lmul m (1000000 : Int64)
      rw [e6] at c2
      simp only [h, h', if_false]
      have b1 := Int64.le_toInt (m * (1000000 : Int64))
      have b2 := Int64.toInt_lt (m * (1000000 : Int64))
      generalize (m * (1000000 : Int64)).toInt = t at *
      omega
  unfold tnF
  generalize nanoF m = N at *
  have hN0 : 0 ≤ N.toInt := by split at hN <;> omega
  have c3 := (c_ldiv N (100 : Int64) 100 rfl (by decide)).1 hN0
  have c4 := c_lsub N (N / (100 : Int64))
  rw [c3] at c4
  have d1 := Int64.le_toInt (N - N / (100 : Int64))
  have d2 := Int64.toInt_lt (N - N / (100 : Int64))
  have hD : (N - N / (100 : Int64)).toInt = N.toInt - N.toInt / 100 := by omega
  generalize N - N / (100 : Int64) = D at *
  have c5 := c_lsub D (2000000 : Int64)
  rw [e2] at c5
  have f1 := Int64.le_toInt (D - (2000000 : Int64))
  have f2 := Int64.toInt_lt (D - (2000000 : Int64))
  generalize (D - (2000000 : Int64)).toInt = t at *
  split at hN
  · rename_i g; simp only [g, if_true]; omega
  · rename_i g; simp only [g, if_false]; omega
theorem own_big (m : Int64) (hm : 0 ≤ m.toInt) (h : (9223372036854 : Int64) < m) : tnF m = (9131138316484228049 : Int64) := by
  have h' := h; rw [Int64.lt_iff_toInt_lt, show (9223372036854 : Int64).toInt = 9223372036854 from rfl] at h'
  rw [← Int64.toInt_inj, own_tn m hm, if_pos h']; rfl
theorem own_small (m : Int64) (hm : 0 ≤ m.toInt) (h : ¬ (9223372036854 : Int64) < m) : tnF m = m * (990000 : Int64) - (2000000 : Int64) := by
  have h' := h; rw [Int64.lt_iff_toInt_lt, show (9223372036854 : Int64).toInt = 9223372036854 from rfl] at h'
  rw [← Int64.toInt_inj, own_tn m hm, if_neg h']
  have c1 := c_lmul m (990000 : Int64)
  have c2 := c_lsub (m * (990000 : Int64)) (2000000 : Int64)
  rw [show (990000 : Int64).toInt = 990000 from rfl] at c1
  rw [show (2000000 : Int64).toInt = 2000000 from rfl] at c2
  have f1 := Int64.le_toInt (m * (990000 : Int64))
  have f2 := Int64.toInt_lt (m * (990000 : Int64))
  have f3 := Int64.le_toInt (m * (990000 : Int64) - (2000000 : Int64))
  have f4 := Int64.toInt_lt (m * (990000 : Int64) - (2000000 : Int64))
  generalize (m * (990000 : Int64) - (2000000 : Int64)).toInt = t at *
  generalize (m * (990000 : Int64)).toInt = u at *
  omega
theorem own_d5_0 : decode jdk_29_method_61_code 0 = .ok (.lload_n 0, 1) := by decide +kernel
theorem own_d5_1 : decode jdk_29_method_61_code 1 = .ok (.lconst 0, 1) := by decide +kernel
theorem own_d5_2 : decode jdk_29_method_61_code 2 = .ok (.lcmp, 1) := by decide +kernel
theorem own_d5_3 : decode jdk_29_method_61_code 3 = .ok (.ifCond .ge 8, 3) := by decide +kernel
theorem own_d5_6 : decode jdk_29_method_61_code 6 = .ok (.lload_n 0, 1) := by decide +kernel
theorem own_d5_7 : decode jdk_29_method_61_code 7 = .ok (.lneg, 1) := by decide +kernel
theorem own_d5_8 : decode jdk_29_method_61_code 8 = .ok (.goto 4, 3) := by decide +kernel
theorem own_d5_11 : decode jdk_29_method_61_code 11 = .ok (.lload_n 0, 1) := by decide +kernel
theorem own_d5_12 : decode jdk_29_method_61_code 12 = .ok (.lreturn, 1) := by decide +kernel
theorem own_ef_rmAbs (m : MethodId) (x0 : Int64) : entryFrame m #[(.long x0)] 2 = mkF m 0 #[.val (.long x0), .second] [] := by first | (simp [entryFrame, mkF, argsToLocals, Value.category]; done) | rfl
def Q_rmAbs (Z : State) (wM : Addr) (wD : Addr) (a : Int64) (h0 : Heap) (n0 : Nat) (vv_ : Option Value) (hh_ : Heap) (LL_ : List Loc) : Prop := vv_ = some (.long (absF a)) ∧ Fr n0 LL_ ∧ hh_ = h0
set_option maxRecDepth 65536 in
set_option maxHeartbeats 40000000 in
theorem rmAbs (l : Launch) (Z : State) (a0 : Array Value) (hw : ∀ d ∈ tables_1, d.before a0 Z = true) (ws : List Jvm.Cond) (wM : Addr) (wD : Addr) (GS : Glob Z wM wD) (a : Int64) (h0 : Heap) (n0 : Nat) (Z0 : n0 ≤ h0.size) (O0 : Old Z n0 h0) :
    MetFree l (⟨"java/lang/Math", "abs", "(J)J"⟩ : MethodName) (head1 (Jvm.Cond.code (⟨"java/lang/Math", "abs", "(J)J"⟩ : MethodName) jdk_29_method_61_code 2 (some .long) :: ws) ({ frames := 0, cells := 0, slots := 0, locals := 0 } : Room)) (fun aa_ UU_ => aa_ = #[(.long a)] ∧ Z.Warmed39 UU_.vm ∧ UU_.heap = h0) (fun _ _ _ _ _ => True) (fun _ UU_ oo_ UV_ => ∃ vv_ LL_, oo_ = .returned vv_ ∧ Q_rmAbs Z wM wD a h0 n0 vv_ UV_.heap LL_ ∧ FrameEnd UU_ oo_ UV_ LL_ ({ frames := 0, cells := 0, slots := 0, locals := 0 } : Room).cells ({ frames := 0, cells := 0, slots := 0, locals := 0 } : Room).slots) := by
  refine MetFree.of_bodySF (Jvm.Free.JP.mathPlain rfl (by decide +kernel)) hisR ?_
  intro p e s m args below meth c s₁ Bd hml0 hP hK
  obtain ⟨rfl, hZ, hh⟩ := hP
  have hx := Bd.exec
  have hby := Bd.bytes
  have hml : c.maxLocals = 2 := hml0
  have hown : s.vm.findClass "java/lang/Math" = some m.cls := findClass_of_methodNamed Bd.named
  have hnm := (name_of_methodNamed Bd.named Bd.method).1
  have X0 : Stand p l e ({ frames := 0, cells := 0, slots := 0, locals := 0 } : Room) s m #[(.long a)] below meth c s₁ [] 0 0 := Stand.of_body Bd
  have e0 : s₁.heap = h0 := by rw [← hh, Bd.state]; rfl
  have N0 := Fr.nil n0
  have hn0 : Z.heap.size = n0 := O0.1
  have KT0 : Keep h0 h0 [] := Keep.refl _ _
  refine own_enter (Φ := fun oo_ UV_ => ∃ vv_ LL_, oo_ = .returned vv_ ∧ Q_rmAbs Z wM wD a h0 n0 vv_ UV_.heap LL_ ∧ FrameEnd s oo_ UV_ LL_ ({ frames := 0, cells := 0, slots := 0, locals := 0 } : Room).cells ({ frames := 0, cells := 0, slots := 0, locals := 0 } : Room).slots) (own_ef_rmAbs m a) ?_
  refine own_by (T' := s₁) (g' := (mkF m 1 #[.val (.long a), .second] [(.long a)])) (fun _ kt_ => XS.lloadN X0.here hx rfl (hb hby own_d5_0) rfl kt_) ?_
  refine own_by (T' := s₁) (g' := (mkF m 2 #[.val (.long a), .second] [(.long (0 : Int64)), (.long a)])) (fun _ kt_ => XS.lconst X0.here hx rfl (hb hby own_d5_1) kt_) ?_
  refine own_by (T' := s₁) (g' := (mkF m 3 #[.val (.long a), .second] [(.int (XT.cmpL a (0 : Int64)))])) (fun _ kt_ => XT.lcmp X0.here hx rfl (hb hby own_d5_2) rfl kt_) ?_
  by_cases hc1 : a < (0 : Int64)
  · refine own_by (T' := s₁) (g' := (mkF m 6 #[.val (.long a), .second] [])) (fun _ kt_ => XS.ifNo X0.here hx rfl (hb hby own_d5_3) rfl (XT.ll_ge_f hc1) kt_) ?_
    refine own_by (T' := s₁) (g' := (mkF m 7 #[.val (.long a), .second] [(.long a)])) (fun _ kt_ => XS.lloadN X0.here hx rfl (hb hby own_d5_6) rfl kt_) ?_
    refine own_by (T' := s₁) (g' := (mkF m 8 #[.val (.long a), .second] [(.long (-a))])) (fun _ kt_ => XS.lneg X0.here hx rfl (hb hby own_d5_7) rfl kt_) ?_
    refine own_by (T' := s₁) (g' := (mkF m 12 #[.val (.long a), .second] [(.long (-a))])) (fun _ kt_ => XS.goto X0.here hx rfl (pc0 := 8) (pc' := 12) rfl (hb hby own_d5_8) (by decide) (by decide) kt_) ?_
    have hr2 : (-a) = (absF a) := by simp [absF, hc1]
    obtain ⟨fs3, hr3, hrun3, hended3, hW3, hsame3⟩ := X0.leave (v := some (.long (-a))) (fun h => by rw [Bd.returns] at h; cases h)
    refine ⟨_, _, retOut X0 hx (t := .long) Bd.returns rfl (Or.inr (Or.inl ⟨rfl, rfl, _, rfl⟩)) (hb hby own_d5_12) hr3, hrun3, hended3, _, _, rfl, ?_, ⟨_, rfl⟩, hW3, hsame3.mono (by decide) (by decide)⟩
    show Q_rmAbs Z wM wD a h0 n0 _ s₁.heap _
    exact ⟨(congrArg (fun z => some (Value.long z)) hr2), N0, e0⟩
  · refine own_by (T' := s₁) (g' := (mkF m 11 #[.val (.long a), .second] [])) (fun _ kt_ => XS.ifYes X0.here hx rfl (pc0 := 3) (pc' := 11) rfl (hb hby own_d5_3) rfl (XT.ll_ge_t hc1) (by decide) (by decide) kt_) ?_
    refine own_by (T' := s₁) (g' := (mkF m 12 #[.val (.long a), .second] [(.long a)])) (fun _ kt_ => XS.lloadN X0.here hx rfl (hb hby own_d5_11) rfl kt_) ?_
    have hr4 : a = (absF a) := by simp [absF, hc1]
    obtain ⟨fs5, hr5, hrun5, hended5, hW5, hsame5⟩ := X0.leave (v := some (.long a)) (fun h => by rw [Bd.returns] at h; cases h)
    refine ⟨_, _, retOut X0 hx (t := .long) Bd.returns rfl (Or.inr (Or.inl ⟨rfl, rfl, _, rfl⟩)) (hb hby own_d5_12) hr5, hrun5, hended5, _, _, rfl, ?_, ⟨_, rfl⟩, hW5, hsame5.mono (by decide) (by decide)⟩
    show Q_rmAbs Z wM wD a h0 n0 _ s₁.heap _
    exact ⟨(congrArg (fun z => some (Value.long z)) hr4), N0, e0⟩
theorem own_pd_0 : parseMethodDescriptor "(J)J" = some ⟨[.long], some .long⟩ := by decide +kernel
theorem own_d4_0 : decode jdk_29_method_30_code 0 = .ok (.lload_n 0, 1) := by decide +kernel
theorem own_d4_1 : decode jdk_29_method_30_code 1 = .ok (.lload_n 2, 1) := by decide +kernel
theorem own_d4_2 : decode jdk_29_method_30_code 2 = .ok (.lmul, 1) := by decide +kernel
theorem own_d4_3 : decode jdk_29_method_30_code 3 = .ok (.lstore 4, 2) := by decide +kernel
theorem own_d4_5 : decode jdk_29_method_30_code 5 = .ok (.lload_n 0, 1) := by decide +kernel
theorem own_d4_6 : decode jdk_29_method_30_code 6 = .ok (.invokestatic 122, 3) := by decide +kernel
theorem own_d4_9 : decode jdk_29_method_30_code 9 = .ok (.lstore 6, 2) := by decide +kernel
theorem own_d4_11 : decode jdk_29_method_30_code 11 = .ok (.lload_n 2, 1) := by decide +kernel
theorem own_d4_12 : decode jdk_29_method_30_code 12 = .ok (.invokestatic 122, 3) := by decide +kernel
theorem own_d4_15 : decode jdk_29_method_30_code 15 = .ok (.lstore 8, 2) := by decide +kernel
theorem own_d4_17 : decode jdk_29_method_30_code 17 = .ok (.lload 6, 2) := by decide +kernel
theorem own_d4_19 : decode jdk_29_method_30_code 19 = .ok (.lload 8, 2) := by decide +kernel
theorem own_d4_21 : decode jdk_29_method_30_code 21 = .ok (.lor, 1) := by decide +kernel
theorem own_d4_22 : decode jdk_29_method_30_code 22 = .ok (.bipush 31, 2) := by decide +kernel
theorem own_d4_24 : decode jdk_29_method_30_code 24 = .ok (.lushr, 1) := by decide +kernel
theorem own_d4_25 : decode jdk_29_method_30_code 25 = .ok (.lconst 0, 1) := by decide +kernel
theorem own_d4_26 : decode jdk_29_method_30_code 26 = .ok (.lcmp, 1) := by decide +kernel
theorem own_d4_27 : decode jdk_29_method_30_code 27 = .ok (.ifCond .eq 44, 3) := by decide +kernel
theorem own_d4_71 : decode jdk_29_method_30_code 71 = .ok (.lload 4, 2) := by decide +kernel
theorem own_d4_73 : decode jdk_29_method_30_code 73 = .ok (.lreturn, 1) := by decide +kernel
theorem own_ef_rmMul (m : MethodId) (x0 : Int64) (x1 : Int64) : entryFrame m #[(.long x0), (.long x1)] 10 = mkF m 0 #[.val (.long x0), .second, .val (.long x1), .second, .unset, .unset, .unset, .unset, .unset, .unset] [] := by first | (simp [entryFrame, mkF, argsToLocals, Value.category]; done) | rfl
def Q_rmMul (Z : State) (wM : Addr) (wD : Addr) (x : Int64) (y : Int64) (h0 : Heap) (n0 : Nat) (vv_ : Option Value) (hh_ : Heap) (LL_ : List Loc) : Prop := vv_ = some (.long (x * y)) ∧ Fr n0 LL_ ∧ hh_ = h0
set_option maxRecDepth 65536 in
set_option maxHeartbeats 40000000 in
theorem rmMul (l : Launch) (Z : State) (a0 : Array Value) (hw : ∀ d ∈ tables_1, d.before a0 Z = true) (ws : List Jvm.Cond) (wM : Addr) (wD : Addr) (GS : Glob Z wM wD) (x : Int64) (y : Int64) (h0 : Heap) (n0 : Nat) (Z0 : n0 ≤ h0.size) (O0 : Old Z n0 h0) (hz : ((((absF x) ||| (absF y)).toUInt64 >>> ((31 : Int32) &&& 0x3f).toInt64.toUInt64).toInt64) = (0 : Int64)) :
    MetFree l (⟨"java/lang/Math", "multiplyExact", "(JJ)J"⟩ : MethodName) (head1 (Jvm.Cond.code (⟨"java/lang/Math", "multiplyExact", "(JJ)J"⟩ : MethodName) jdk_29_method_30_code 10 (some .long) :: ws) ({ frames := 1, cells := 0, slots := 0, locals := 13 } : Room)) (fun aa_ UU_ => aa_ = #[(.long x), (.long y)] ∧ Z.Warmed39 UU_.vm ∧ UU_.heap = h0) (fun _ _ _ _ _ => True) (fun _ UU_ oo_ UV_ => ∃ vv_ LL_, oo_ = .returned vv_ ∧ Q_rmMul Z wM wD x y h0 n0 vv_ UV_.heap LL_ ∧ FrameEnd UU_ oo_ UV_ LL_ ({ frames := 1, cells := 0, slots := 0, locals := 13 } : Room).cells ({ frames := 1, cells := 0, slots := 0, locals := 13 } : Room).slots) := by
  refine MetFree.of_bodySF (Jvm.Free.JP.mathPlain rfl (by decide +kernel)) hisR ?_
  intro p e s m args below meth c s₁ Bd hml0 hP hK
  obtain ⟨rfl, hZ, hh⟩ := hP
  have hx := Bd.exec
  have hby := Bd.bytes
  have hml : c.maxLocals = 10 := hml0
  have hown : s.vm.findClass "java/lang/Math" = some m.cls := findClass_of_methodNamed Bd.named
  have hnm := (name_of_methodNamed Bd.named Bd.method).1
  have X0 : Stand p l e ({ frames := 1, cells := 0, slots := 0, locals := 13 } : Room) s m #[(.long x), (.long y)] below meth c s₁ [] 0 0 := Stand.of_body Bd
  have e0 : s₁.heap = h0 := by rw [← hh, Bd.state]; rfl
  have N0 := Fr.nil n0
  have hn0 : Z.heap.size = n0 := O0.1
  have KT0 : Keep h0 h0 [] := Keep.refl _ _
  refine own_enter (Φ := fun oo_ UV_ => ∃ vv_ LL_, oo_ = .returned vv_ ∧ Q_rmMul Z wM wD x y h0 n0 vv_ UV_.heap LL_ ∧ FrameEnd s oo_ UV_ LL_ ({ frames := 1, cells := 0, slots := 0, locals := 13 } : Room).cells ({ frames := 1, cells := 0, slots := 0, locals := 13 } : Room).slots) (own_ef_rmMul m x y) ?_
  refine own_by (T' := s₁) (g' := (mkF m 1 #[.val (.long x), .second, .val (.long y), .second, .unset, .unset, .unset, .unset, .unset, .unset] [(.long x)])) (fun _ kt_ => XS.lloadN X0.here hx rfl (hb hby own_d4_0) rfl kt_) ?_
  refine own_by (T' := s₁) (g' := (mkF m 2 #[.val (.long x), .second, .val (.long y), .second, .unset, .unset, .unset, .unset, .unset, .unset] [(.long y), (.long x)])) (fun _ kt_ => XS.lloadN X0.here hx rfl (hb hby own_d4_1) rfl kt_) ?_
  refine own_by (T' := s₁) (g' := (mkF m 3 #[.val (.long x), .second, .val (.long y), .second, .unset, .unset, .unset, .unset, .unset, .unset] [(.long (x * y))])) (fun _ kt_ => XS.lmul X0.here hx rfl (hb hby own_d4_2) rfl kt_) ?_
  refine own_by (T' := s₁) (g' := (mkF m 5 #[.val (.long x), .second, .val (.long y), .second, .val (.long (x * y)), .second, .unset, .unset, .unset, .unset] [])) (fun _ kt_ => XS.lstore X0.here hx rfl (hb hby own_d4_3) rfl (l' := #[.val (.long x), .second, .val (.long y), .second, .val (.long (x * y)), .second, .unset, .unset, .unset, .unset]) rfl kt_) ?_
  refine own_by (T' := s₁) (g' := (mkF m 6 #[.val (.long x), .second, .val (.long y), .second, .val (.long (x * y)), .second, .unset, .unset, .unset, .unset] [(.long x)])) (fun _ kt_ => XS.lloadN X0.here hx rfl (hb hby own_d4_5) rfl kt_) ?_
  obtain ⟨_, _, ⟨T1, L1, k1, n1⟩, -, X1, ⟨Lc1, hQ1, l1, y1, z1⟩, st1⟩ := Jvm.LawKit.callS X0 hx (y := (⟨"java/lang/Math", "abs", "(J)J"⟩ : MethodName)) hown (mvT hZ (hw _ (List.mem_of_getElem? (i := 34) rfl))) (mvT hZ (hw _ (List.mem_of_getElem? (i := 35) rfl))) (mvT hZ (hw _ (List.mem_of_getElem? (i := 32) rfl))) (mvT hZ (hw _ (List.mem_of_getElem? (i := 36) rfl))) (by decide) (backOf (W := 0) (rmAbs l Z a0 hw [] wM wD GS x h0 n0 (by omega) O0 ) hZ (hw _ (List.mem_of_getElem? (i := 36) rfl)) (hw _ (List.mem_of_getElem? (i := 32) rfl)) (by decide) (by decide)) (g := (mkF m 6 #[.val (.long x), .second, .val (.long y), .second, .val (.long (x * y)), .second, .unset, .unset, .unset, .unset] [(.long x)])) rfl (by rw [hml]; rfl) (argsL := [(.long x)]) (rest := []) (lenOf own_pd_0 rfl) rfl (by show 2 * 0 + _ ≤ _; exact Nat.le_of_eq rfl) (hb hby own_d4_6) (fun _ _ => ⟨rfl, e0, (by decide : 0 + 0 ≤ _), (by decide : 0 + 0 ≤ _)⟩)
  dsimp only [Pt.U, Pt.locs, Pt.cells, Pt.slots] at X1 l1 y1 z1 st1 hQ1
  subst l1 y1 z1
  obtain ⟨rfl, N1q, e1⟩ := hQ1
  have N2 := Fr.app N0 N1q
  refine own_by (T' := T1) (g' := (mkF m 9 #[.val (.long x), .second, .val (.long y), .second, .val (.long (x * y)), .second, .unset, .unset, .unset, .unset] [(.long (absF x))])) st1 ?_
  refine own_by (T' := T1) (g' := (mkF m 11 #[.val (.long x), .second, .val (.long y), .second, .val (.long (x * y)), .second, .val (.long (absF x)), .second, .unset, .unset] [])) (fun _ kt_ => XS.lstore X1.here hx rfl (hb hby own_d4_9) rfl (l' := #[.val (.long x), .second, .val (.long y), .second, .val (.long (x * y)), .second, .val (.long (absF x)), .second, .unset, .unset]) rfl kt_) ?_
  refine own_by (T' := T1) (g' := (mkF m 12 #[.val (.long x), .second, .val (.long y), .second, .val (.long (x * y)), .second, .val (.long (absF x)), .second, .unset, .unset] [(.long y)])) (fun _ kt_ => XS.lloadN X1.here hx rfl (hb hby own_d4_11) rfl kt_) ?_
  obtain ⟨_, _, ⟨T3, L3, k3, n3⟩, -, X3, ⟨Lc3, hQ3, l3, y3, z3⟩, st3⟩ := Jvm.LawKit.callS X1 hx (y := (⟨"java/lang/Math", "abs", "(J)J"⟩ : MethodName)) hown (mvT hZ (hw _ (List.mem_of_getElem? (i := 34) rfl))) (mvT hZ (hw _ (List.mem_of_getElem? (i := 35) rfl))) (mvT hZ (hw _ (List.mem_of_getElem? (i := 32) rfl))) (mvT hZ (hw _ (List.mem_of_getElem? (i := 36) rfl))) (by decide) (backOf (W := 0) (rmAbs l Z a0 hw [] wM wD GS y h0 n0 (by omega) O0 ) hZ (hw _ (List.mem_of_getElem? (i := 36) rfl)) (hw _ (List.mem_of_getElem? (i := 32) rfl)) (by decide) (by decide)) (g := (mkF m 12 #[.val (.long x), .second, .val (.long y), .second, .val (.long (x * y)), .second, .val (.long (absF x)), .second, .unset, .unset] [(.long y)])) rfl (by rw [hml]; rfl) (argsL := [(.long y)]) (rest := []) (lenOf own_pd_0 rfl) rfl (by show 2 * 0 + _ ≤ _; exact Nat.le_of_eq rfl) (hb hby own_d4_12) (fun _ _ => ⟨rfl, e1, (by decide : 0 + 0 ≤ _), (by decide : 0 + 0 ≤ _)⟩)
  dsimp only [Pt.U, Pt.locs, Pt.cells, Pt.slots] at X3 l3 y3 z3 st3 hQ3
  subst l3 y3 z3
  obtain ⟨rfl, N3q, e3⟩ := hQ3
  have N4 := Fr.app N2 N3q
  refine own_by (T' := T3) (g' := (mkF m 15 #[.val (.long x), .second, .val (.long y), .second, .val (.long (x * y)), .second, .val (.long (absF x)), .second, .unset, .unset] [(.long (absF y))])) st3 ?_
  refine own_by (T' := T3) (g' := (mkF m 17 #[.val (.long x), .second, .val (.long y), .second, .val (.long (x * y)), .second, .val (.long (absF x)), .second, .val (.long (absF y)), .second] [])) (fun _ kt_ => XS.lstore X3.here hx rfl (hb hby own_d4_15) rfl (l' := #[.val (.long x), .second, .val (.long y), .second, .val (.long (x * y)), .second, .val (.long (absF x)), .second, .val (.long (absF y)), .second]) rfl kt_) ?_
  refine own_by (T' := T3) (g' := (mkF m 19 #[.val (.long x), .second, .val (.long y), .second, .val (.long (x * y)), .second, .val (.long (absF x)), .second, .val (.long (absF y)), .second] [(.long (absF x))])) (fun _ kt_ => XS.lload X3.here hx rfl (hb hby own_d4_17) rfl kt_) ?_
  refine own_by (T' := T3) (g' := (mkF m 21 #[.val (.long x), .second, .val (.long y), .second, .val (.long (x * y)), .second, .val (.long (absF x)), .second, .val (.long (absF y)), .second] [(.long (absF y)), (.long (absF x))])) (fun _ kt_ => XS.lload X3.here hx rfl (hb hby own_d4_19) rfl kt_) ?_
  refine own_by (T' := T3) (g' := (mkF m 22 #[.val (.long x), .second, .val (.long y), .second, .val (.long (x * y)), .second, .val (.long (absF x)), .second, .val (.long (absF y)), .second] [(.long ((absF x) ||| (absF y)))])) (fun _ kt_ => XS.lor X3.here hx rfl (hb hby own_d4_21) rfl kt_) ?_
  refine own_by (T' := T3) (g' := (mkF m 24 #[.val (.long x), .second, .val (.long y), .second, .val (.long (x * y)), .second, .val (.long (absF x)), .second, .val (.long (absF y)), .second] [(.int (31 : Int32)), (.long ((absF x) ||| (absF y)))])) (fun _ kt_ => XS.bipush X3.here hx rfl (hb hby own_d4_22) kt_) ?_
  refine own_by (T' := T3) (g' := (mkF m 25 #[.val (.long x), .second, .val (.long y), .second, .val (.long (x * y)), .second, .val (.long (absF x)), .second, .val (.long (absF y)), .second] [(.long ((((absF x) ||| (absF y)).toUInt64 >>> ((31 : Int32) &&& 0x3f).toInt64.toUInt64).toInt64))])) (fun _ kt_ => XS.lushr X3.here hx rfl (hb hby own_d4_24) rfl kt_) ?_
  refine own_by (T' := T3) (g' := (mkF m 26 #[.val (.long x), .second, .val (.long y), .second, .val (.long (x * y)), .second, .val (.long (absF x)), .second, .val (.long (absF y)), .second] [(.long (0 : Int64)), (.long ((((absF x) ||| (absF y)).toUInt64 >>> ((31 : Int32) &&& 0x3f).toInt64.toUInt64).toInt64))])) (fun _ kt_ => XS.lconst X3.here hx rfl (hb hby own_d4_25) kt_) ?_
  refine own_by (T' := T3) (g' := (mkF m 27 #[.val (.long x), .second, .val (.long y), .second, .val (.long (x * y)), .second, .val (.long (absF x)), .second, .val (.long (absF y)), .second] [(.int (XT.cmpL ((((absF x) ||| (absF y)).toUInt64 >>> ((31 : Int32) &&& 0x3f).toInt64.toUInt64).toInt64) (0 : Int64)))])) (fun _ kt_ => XT.lcmp X3.here hx rfl (hb hby own_d4_26) rfl kt_) ?_
  refine own_by (T' := T3) (g' := (mkF m 71 #[.val (.long x), .second, .val (.long y), .second, .val (.long (x * y)), .second, .val (.long (absF x)), .second, .val (.long (absF y)), .second] [])) (fun _ kt_ => XS.ifYes X3.here hx rfl (pc0 := 27) (pc' := 71) rfl (hb hby own_d4_27) rfl (XT.ll_eq_t hz) (by decide) (by decide) kt_) ?_
  refine own_by (T' := T3) (g' := (mkF m 73 #[.val (.long x), .second, .val (.long y), .second, .val (.long (x * y)), .second, .val (.long (absF x)), .second, .val (.long (absF y)), .second] [(.long (x * y))])) (fun _ kt_ => XS.lload X3.here hx rfl (hb hby own_d4_71) rfl kt_) ?_
  obtain ⟨fs5, hr5, hrun5, hended5, hW5, hsame5⟩ := X3.leave (v := some (.long (x * y))) (fun h => by rw [Bd.returns] at h; cases h)
  refine ⟨_, _, retOut X3 hx (t := .long) Bd.returns rfl (Or.inr (Or.inl ⟨rfl, rfl, _, rfl⟩)) (hb hby own_d4_73) hr5, hrun5, hended5, _, _, rfl, ?_, ⟨_, rfl⟩, hW5, hsame5.mono (by decide) (by decide)⟩
  show Q_rmMul Z wM wD x y h0 n0 _ T3.heap _
  exact ⟨rfl, N4, e3⟩
theorem own_d6_0 : decode jdk_29_method_25_code 0 = .ok (.lload_n 0, 1) := by decide +kernel
theorem own_d6_1 : decode jdk_29_method_25_code 1 = .ok (.lload_n 2, 1) := by decide +kernel
theorem own_d6_2 : decode jdk_29_method_25_code 2 = .ok (.ladd, 1) := by decide +kernel
theorem own_d6_3 : decode jdk_29_method_25_code 3 = .ok (.lstore 4, 2) := by decide +kernel
theorem own_d6_5 : decode jdk_29_method_25_code 5 = .ok (.lload_n 0, 1) := by decide +kernel
theorem own_d6_6 : decode jdk_29_method_25_code 6 = .ok (.lload 4, 2) := by decide +kernel
theorem own_d6_8 : decode jdk_29_method_25_code 8 = .ok (.lxor, 1) := by decide +kernel
theorem own_d6_9 : decode jdk_29_method_25_code 9 = .ok (.lload_n 2, 1) := by decide +kernel
theorem own_d6_10 : decode jdk_29_method_25_code 10 = .ok (.lload 4, 2) := by decide +kernel
theorem own_d6_12 : decode jdk_29_method_25_code 12 = .ok (.lxor, 1) := by decide +kernel
theorem own_d6_13 : decode jdk_29_method_25_code 13 = .ok (.land, 1) := by decide +kernel
theorem own_d6_14 : decode jdk_29_method_25_code 14 = .ok (.lconst 0, 1) := by decide +kernel
theorem own_d6_15 : decode jdk_29_method_25_code 15 = .ok (.lcmp, 1) := by decide +kernel
theorem own_d6_16 : decode jdk_29_method_25_code 16 = .ok (.ifCond .ge 13, 3) := by decide +kernel
theorem own_d6_29 : decode jdk_29_method_25_code 29 = .ok (.lload 4, 2) := by decide +kernel
theorem own_d6_31 : decode jdk_29_method_25_code 31 = .ok (.lreturn, 1) := by decide +kernel
theorem own_ef_rmAdd (m : MethodId) (x0 : Int64) (x1 : Int64) : entryFrame m #[(.long x0), (.long x1)] 6 = mkF m 0 #[.val (.long x0), .second, .val (.long x1), .second, .unset, .unset] [] := by first | (simp [entryFrame, mkF, argsToLocals, Value.category]; done) | rfl
def Q_rmAdd (Z : State) (wM : Addr) (wD : Addr) (x : Int64) (y : Int64) (h0 : Heap) (n0 : Nat) (vv_ : Option Value) (hh_ : Heap) (LL_ : List Loc) : Prop := vv_ = some (.long (x + y)) ∧ Fr n0 LL_ ∧ hh_ = h0
set_option maxRecDepth 65536 in
set_option maxHeartbeats 40000000 in
theorem rmAdd (l : Launch) (Z : State) (a0 : Array Value) (hw : ∀ d ∈ tables_1, d.before a0 Z = true) (ws : List Jvm.Cond) (wM : Addr) (wD : Addr) (GS : Glob Z wM wD) (x : Int64) (y : Int64) (h0 : Heap) (n0 : Nat) (Z0 : n0 ≤ h0.size) (O0 : Old Z n0 h0) (hz : ¬ ((x ^^^ (x + y)) &&& (y ^^^ (x + y))) < (0 : Int64)) :
    MetFree l (⟨"java/lang/Math", "addExact", "(JJ)J"⟩ : MethodName) (head1 (Jvm.Cond.code (⟨"java/lang/Math", "addExact", "(JJ)J"⟩ : MethodName) jdk_29_method_25_code 6 (some .long) :: ws) ({ frames := 0, cells := 0, slots := 0, locals := 0 } : Room)) (fun aa_ UU_ => aa_ = #[(.long x), (.long y)] ∧ Z.Warmed39 UU_.vm ∧ UU_.heap = h0) (fun _ _ _ _ _ => True) (fun _ UU_ oo_ UV_ => ∃ vv_ LL_, oo_ = .returned vv_ ∧ Q_rmAdd Z wM wD x y h0 n0 vv_ UV_.heap LL_ ∧ FrameEnd UU_ oo_ UV_ LL_ ({ frames := 0, cells := 0, slots := 0, locals := 0 } : Room).cells ({ frames := 0, cells := 0, slots := 0, locals := 0 } : Room).slots) := by
  refine MetFree.of_bodySF (Jvm.Free.JP.mathPlain rfl (by decide +kernel)) hisR ?_
  intro p e s m args below meth c s₁ Bd hml0 hP hK
  obtain ⟨rfl, hZ, hh⟩ := hP
  have hx := Bd.exec
  have hby := Bd.bytes
  have hml : c.maxLocals = 6 := hml0
  have hown : s.vm.findClass "java/lang/Math" = some m.cls := findClass_of_methodNamed Bd.named
  have hnm := (name_of_methodNamed Bd.named Bd.method).1
  have X0 : Stand p l e ({ frames := 0, cells := 0, slots := 0, locals := 0 } : Room) s m #[(.long x), (.long y)] below meth c s₁ [] 0 0 := Stand.of_body Bd
  have e0 : s₁.heap = h0 := by rw [← hh, Bd.state]; rfl
  have N0 := Fr.nil n0
  have hn0 : Z.heap.size = n0 := O0.1
  have KT0 : Keep h0 h0 [] := Keep.refl _ _
  refine own_enter (Φ := fun oo_ UV_ => ∃ vv_ LL_, oo_ = .returned vv_ ∧ Q_rmAdd Z wM wD x y h0 n0 vv_ UV_.heap LL_ ∧ FrameEnd s oo_ UV_ LL_ ({ frames := 0, cells := 0, slots := 0, locals := 0 } : Room).cells ({ frames := 0, cells := 0, slots := 0, locals := 0 } : Room).slots) (own_ef_rmAdd m x y) ?_
  refine own_by (T' := s₁) (g' := (mkF m 1 #[.val (.long x), .second, .val (.long y), .second, .unset, .unset] [(.long x)])) (fun _ kt_ => XS.lloadN X0.here hx rfl (hb hby own_d6_0) rfl kt_) ?_
  refine own_by (T' := s₁) (g' := (mkF m 2 #[.val (.long x), .second, .val (.long y), .second, .unset, .unset] [(.long y), (.long x)])) (fun _ kt_ => XS.lloadN X0.here hx rfl (hb hby own_d6_1) rfl kt_) ?_
  refine own_by (T' := s₁) (g' := (mkF m 3 #[.val (.long x), .second, .val (.long y), .second, .unset, .unset] [(.long (x + y))])) (fun _ kt_ => XS.ladd X0.here hx rfl (hb hby own_d6_2) rfl kt_) ?_
  refine own_by (T' := s₁) (g' := (mkF m 5 #[.val (.long x), .second, .val (.long y), .second, .val (.long (x + y)), .second] [])) (fun _ kt_ => XS.lstore X0.here hx rfl (hb hby own_d6_3) rfl (l' := #[.val (.long x), .second, .val (.long y), .second, .val (.long (x + y)), .second]) rfl kt_) ?_
  refine own_by (T' := s₁) (g' := (mkF m 6 #[.val (.long x), .second, .val (.long y), .second, .val (.long (x + y)), .second] [(.long x)])) (fun _ kt_ => XS.lloadN X0.here hx rfl (hb hby own_d6_5) rfl kt_) ?_
  refine own_by (T' := s₁) (g' := (mkF m 8 #[.val (.long x), .second, .val (.long y), .second, .val (.long (x + y)), .second] [(.long (x + y)), (.long x)])) (fun _ kt_ => XS.lload X0.here hx rfl (hb hby own_d6_6) rfl kt_) ?_
  refine own_by (T' := s₁) (g' := (mkF m 9 #[.val (.long x), .second, .val (.long y), .second, .val (.long (x + y)), .second] [(.long (x ^^^ (x + y)))])) (fun _ kt_ => XS.lxor X0.here hx rfl (hb hby own_d6_8) rfl kt_) ?_
  refine own_by (T' := s₁) (g' := (mkF m 10 #[.val (.long x), .second, .val (.long y), .second, .val (.long (x + y)), .second] [(.long y), (.long (x ^^^ (x + y)))])) (fun _ kt_ => XS.lloadN X0.here hx rfl (hb hby own_d6_9) rfl kt_) ?_
  refine own_by (T' := s₁) (g' := (mkF m 12 #[.val (.long x), .second, .val (.long y), .second, .val (.long (x + y)), .second] [(.long (x + y)), (.long y), (.long (x ^^^ (x + y)))])) (fun _ kt_ => XS.lload X0.here hx rfl (hb hby own_d6_10) rfl kt_) ?_
  refine own_by (T' := s₁) (g' := (mkF m 13 #[.val (.long x), .second, .val (.long y), .second, .val (.long (x + y)), .second] [(.long (y ^^^ (x + y))), (.long (x ^^^ (x + y)))])) (fun _ kt_ => XS.lxor X0.here hx rfl (hb hby own_d6_12) rfl kt_) ?_
  refine own_by (T' := s₁) (g' := (mkF m 14 #[.val (.long x), .second, .val (.long y), .second, .val (.long (x + y)), .second] [(.long ((x ^^^ (x + y)) &&& (y ^^^ (x + y))))])) (fun _ kt_ => XS.land X0.here hx rfl (hb hby own_d6_13) rfl kt_) ?_
  refine own_by (T' := s₁) (g' := (mkF m 15 #[.val (.long x), .second, .val (.long y), .second, .val (.long (x + y)), .second] [(.long (0 : Int64)), (.long ((x ^^^ (x + y)) &&& (y ^^^ (x + y))))])) (fun _ kt_ => XS.lconst X0.here hx rfl (hb hby own_d6_14) kt_) ?_
  refine own_by (T' := s₁) (g' := (mkF m 16 #[.val (.long x), .second, .val (.long y), .second, .val (.long (x + y)), .second] [(.int (XT.cmpL ((x ^^^ (x + y)) &&& (y ^^^ (x + y))) (0 : Int64)))])) (fun _ kt_ => XT.lcmp X0.here hx rfl (hb hby own_d6_15) rfl kt_) ?_
  refine own_by (T' := s₁) (g' := (mkF m 29 #[.val (.long x), .second, .val (.long y), .second, .val (.long (x + y)), .second] [])) (fun _ kt_ => XS.ifYes X0.here hx rfl (pc0 := 16) (pc' := 29) rfl (hb hby own_d6_16) rfl (XT.ll_ge_t hz) (by decide) (by decide) kt_) ?_
  refine own_by (T' := s₁) (g' := (mkF m 31 #[.val (.long x), .second, .val (.long y), .second, .val (.long (x + y)), .second] [(.long (x + y))])) (fun _ kt_ => XS.lload X0.here hx rfl (hb hby own_d6_29) rfl kt_) ?_
  obtain ⟨fs1, hr1, hrun1, hended1, hW1, hsame1⟩ := X0.leave (v := some (.long (x + y))) (fun h => by rw [Bd.returns] at h; cases h)
  refine ⟨_, _, retOut X0 hx (t := .long) Bd.returns rfl (Or.inr (Or.inl ⟨rfl, rfl, _, rfl⟩)) (hb hby own_d6_31) hr1, hrun1, hended1, _, _, rfl, ?_, ⟨_, rfl⟩, hW1, hsame1.mono (by decide) (by decide)⟩
  show Q_rmAdd Z wM wD x y h0 n0 _ s₁.heap _
  exact ⟨rfl, N0, e0⟩
theorem own_pd_1 : parseMethodDescriptor "(JJ)J" = some ⟨[.long, .long], some .long⟩ := by decide +kernel
theorem own_d3_0 : decode jdk_2316_method_58_code 0 = .ok (.aload_n 0, 1) := by decide +kernel
theorem own_d3_1 : decode jdk_2316_method_58_code 1 = .ok (.getfield 221, 3) := by decide +kernel
theorem own_d3_4 : decode jdk_2316_method_58_code 4 = .ok (.lstore_n 1, 1) := by decide +kernel
theorem own_d3_5 : decode jdk_2316_method_58_code 5 = .ok (.aload_n 0, 1) := by decide +kernel
theorem own_d3_6 : decode jdk_2316_method_58_code 6 = .ok (.getfield 224, 3) := by decide +kernel
theorem own_d3_9 : decode jdk_2316_method_58_code 9 = .ok (.i2l, 1) := by decide +kernel
theorem own_d3_10 : decode jdk_2316_method_58_code 10 = .ok (.lstore_n 3, 1) := by decide +kernel
theorem own_d3_11 : decode jdk_2316_method_58_code 11 = .ok (.lload_n 1, 1) := by decide +kernel
theorem own_d3_12 : decode jdk_2316_method_58_code 12 = .ok (.lconst 0, 1) := by decide +kernel
theorem own_d3_13 : decode jdk_2316_method_58_code 13 = .ok (.lcmp, 1) := by decide +kernel
theorem own_d3_14 : decode jdk_2316_method_58_code 14 = .ok (.ifCond .ge 13, 3) := by decide +kernel
theorem own_d3_27 : decode jdk_2316_method_58_code 27 = .ok (.lload_n 1, 1) := by decide +kernel
theorem own_d3_28 : decode jdk_2316_method_58_code 28 = .ok (.ldc2_w 16, 3) := by decide +kernel
theorem own_d3_31 : decode jdk_2316_method_58_code 31 = .ok (.invokestatic 289, 3) := by decide +kernel
theorem own_d3_34 : decode jdk_2316_method_58_code 34 = .ok (.lstore 5, 2) := by decide +kernel
theorem own_d3_36 : decode jdk_2316_method_58_code 36 = .ok (.lload 5, 2) := by decide +kernel
theorem own_d3_38 : decode jdk_2316_method_58_code 38 = .ok (.lload_n 3, 1) := by decide +kernel
theorem own_d3_39 : decode jdk_2316_method_58_code 39 = .ok (.invokestatic 22, 3) := by decide +kernel
theorem own_d3_42 : decode jdk_2316_method_58_code 42 = .ok (.lstore 5, 2) := by decide +kernel
theorem own_d3_44 : decode jdk_2316_method_58_code 44 = .ok (.lload 5, 2) := by decide +kernel
theorem own_d3_46 : decode jdk_2316_method_58_code 46 = .ok (.lreturn, 1) := by decide +kernel
theorem own_pn_java_time_Duration : plainName "java/time/Duration" = true := by first | (simp [plainName, overriddenIn]; done) | decide +kernel
theorem own_ef_rmDur (m : MethodId) (x0 : Addr) : entryFrame m #[(.ref x0)] 7 = mkF m 0 #[.val (.ref x0), .unset, .unset, .unset, .unset, .unset, .unset] [] := by first | (simp [entryFrame, mkF, argsToLocals, Value.category]; done) | rfl
def Q_rmDur (Z : State) (wM : Addr) (wD : Addr) (h0 : Heap) (n0 : Nat) (vv_ : Option Value) (hh_ : Heap) (LL_ : List Loc) : Prop := vv_ = some (.long (2000000 : Int64)) ∧ Fr n0 LL_ ∧ hh_ = h0
set_option maxRecDepth 65536 in
set_option maxHeartbeats 40000000 in
theorem rmDur (l : Launch) (Z : State) (a0 : Array Value) (hw : ∀ d ∈ tables_1, d.before a0 Z = true) (ws : List Jvm.Cond) (wM : Addr) (wD : Addr) (GS : Glob Z wM wD)  (h0 : Heap) (n0 : Nat) (Z0 : n0 ≤ h0.size) (O0 : Old Z n0 h0) :
    MetFree l (⟨"java/time/Duration", "toNanos", "()J"⟩ : MethodName) (head1 (Jvm.Cond.code (⟨"java/time/Duration", "toNanos", "()J"⟩ : MethodName) jdk_2316_method_58_code 7 (some .long) :: ws) ({ frames := 2, cells := 0, slots := 0, locals := 34 } : Room)) (fun aa_ UU_ => aa_ = #[(.ref wD)] ∧ Z.Warmed39 UU_.vm ∧ UU_.heap = h0) (fun _ _ _ _ _ => True) (fun _ UU_ oo_ UV_ => ∃ vv_ LL_, oo_ = .returned vv_ ∧ Q_rmDur Z wM wD h0 n0 vv_ UV_.heap LL_ ∧ FrameEnd UU_ oo_ UV_ LL_ ({ frames := 2, cells := 0, slots := 0, locals := 34 } : Room).cells ({ frames := 2, cells := 0, slots := 0, locals := 34 } : Room).slots) := by
  refine MetFree.of_bodySF (plainFor_of_name own_pn_java_time_Duration) hisR ?_
  intro p e s m args below meth c s₁ Bd hml0 hP hK
  obtain ⟨rfl, hZ, hh⟩ := hP
  have hx := Bd.exec
  have hby := Bd.bytes
  have hml : c.maxLocals = 7 := hml0
  have hown : s.vm.findClass "java/time/Duration" = some m.cls := findClass_of_methodNamed Bd.named
  have hnm := (name_of_methodNamed Bd.named Bd.method).1
  have X0 : Stand p l e ({ frames := 2, cells := 0, slots := 0, locals := 34 } : Room) s m #[(.ref wD)] below meth c s₁ [] 0 0 := Stand.of_body Bd
  have e0 : s₁.heap = h0 := by rw [← hh, Bd.state]; rfl
  have N0 := Fr.nil n0
  have hn0 : Z.heap.size = n0 := O0.1
  have KT0 : Keep h0 h0 [] := Keep.refl _ _
  refine own_enter (Φ := fun oo_ UV_ => ∃ vv_ LL_, oo_ = .returned vv_ ∧ Q_rmDur Z wM wD h0 n0 vv_ UV_.heap LL_ ∧ FrameEnd s oo_ UV_ LL_ ({ frames := 2, cells := 0, slots := 0, locals := 34 } : Room).cells ({ frames := 2, cells := 0, slots := 0, locals := 34 } : Room).slots) (own_ef_rmDur m wD) ?_
  refine own_by (T' := s₁) (g' := (mkF m 1 #[.val (.ref wD), .unset, .unset, .unset, .unset, .unset, .unset] [(.ref wD)])) (fun _ kt_ => XS.aloadN X0.here hx rfl (hb hby own_d3_0) rfl rfl kt_) ?_
  have f1 := GS.2.2.2.2.2.2.2.1.ext O0.2
  obtain ⟨T2, X2, e2, st2⟩ := getF X0 hx hZ hown (host := "") (Or.inl (hw _ (List.mem_of_getElem? (i := 25) rfl))) Via.refl e0 f1 (g := (mkF m 1 #[.val (.ref wD), .unset, .unset, .unset, .unset, .unset, .unset] [(.ref wD)])) rfl rfl (hb hby own_d3_1)
  refine own_by (T' := T2) (g' := (mkF m 4 #[.val (.ref wD), .unset, .unset, .unset, .unset, .unset, .unset] [(.long (0 : Int64))])) st2 ?_
  refine own_by (T' := T2) (g' := (mkF m 5 #[.val (.ref wD), .val (.long (0 : Int64)), .second, .unset, .unset, .unset, .unset] [])) (fun _ kt_ => XS.lstoreN X2.here hx rfl (hb hby own_d3_4) rfl (l' := #[.val (.ref wD), .val (.long (0 : Int64)), .second, .unset, .unset, .unset, .unset]) rfl kt_) ?_
  refine own_by (T' := T2) (g' := (mkF m 6 #[.val (.ref wD), .val (.long (0 : Int64)), .second, .unset, .unset, .unset, .unset] [(.ref wD)])) (fun _ kt_ => XS.aloadN X2.here hx rfl (hb hby own_d3_5) rfl rfl kt_) ?_
  have f3 := GS.2.2.2.2.2.2.2.2.ext O0.2
  obtain ⟨T4, X4, e4, st4⟩ := getF X2 hx hZ hown (host := "") (Or.inl (hw _ (List.mem_of_getElem? (i := 27) rfl))) Via.refl e2 f3 (g := (mkF m 6 #[.val (.ref wD), .val (.long (0 : Int64)), .second, .unset, .unset, .unset, .unset] [(.ref wD)])) rfl rfl (hb hby own_d3_6)
  refine own_by (T' := T4) (g' := (mkF m 9 #[.val (.ref wD), .val (.long (0 : Int64)), .second, .unset, .unset, .unset, .unset] [(.int (2000000 : Int32))])) st4 ?_
  refine own_by (T' := T4) (g' := (mkF m 10 #[.val (.ref wD), .val (.long (0 : Int64)), .second, .unset, .unset, .unset, .unset] [(.long (2000000 : Int32).toInt64)])) (fun _ kt_ => XS.i2l X4.here hx rfl (hb hby own_d3_9) rfl kt_) ?_
  refine own_by (T' := T4) (g' := (mkF m 11 #[.val (.ref wD), .val (.long (0 : Int64)), .second, .val (.long (2000000 : Int32).toInt64), .second, .unset, .unset] [])) (fun _ kt_ => XS.lstoreN X4.here hx rfl (hb hby own_d3_10) rfl (l' := #[.val (.ref wD), .val (.long (0 : Int64)), .second, .val (.long (2000000 : Int32).toInt64), .second, .unset, .unset]) rfl kt_) ?_
  refine own_by (T' := T4) (g' := (mkF m 12 #[.val (.ref wD), .val (.long (0 : Int64)), .second, .val (.long (2000000 : Int32).toInt64), .second, .unset, .unset] [(.long (0 : Int64))])) (fun _ kt_ => XS.lloadN X4.here hx rfl (hb hby own_d3_11) rfl kt_) ?_
  refine own_by (T' := T4) (g' := (mkF m 13 #[.val (.ref wD), .val (.long (0 : Int64)), .second, .val (.long (2000000 : Int32).toInt64), .second, .unset, .unset] [(.long (0 : Int64)), (.long (0 : Int64))])) (fun _ kt_ => XS.lconst X4.here hx rfl (hb hby own_d3_12) kt_) ?_
  refine own_by (T' := T4) (g' := (mkF m 14 #[.val (.ref wD), .val (.long (0 : Int64)), .second, .val (.long (2000000 : Int32).toInt64), .second, .unset, .unset] [(.int (XT.cmpL (0 : Int64) (0 : Int64)))])) (fun _ kt_ => XT.lcmp X4.here hx rfl (hb hby own_d3_13) rfl kt_) ?_
  refine own_by (T' := T4) (g' := (mkF m 27 #[.val (.ref wD), .val (.long (0 : Int64)), .second, .val (.long (2000000 : Int32).toInt64), .second, .unset, .unset] [])) (fun _ kt_ => XS.ifYes X4.here hx rfl (pc0 := 14) (pc' := 27) rfl (hb hby own_d3_14) rfl (XT.ll_ge_t (by decide)) (by decide) (by decide) kt_) ?_
  refine own_by (T' := T4) (g' := (mkF m 28 #[.val (.ref wD), .val (.long (0 : Int64)), .second, .val (.long (2000000 : Int32).toInt64), .second, .unset, .unset] [(.long (0 : Int64))])) (fun _ kt_ => XS.lloadN X4.here hx rfl (hb hby own_d3_27) rfl kt_) ?_
  refine own_by (T' := T4) (g' := (mkF m 31 #[.val (.ref wD), .val (.long (0 : Int64)), .second, .val (.long (2000000 : Int32).toInt64), .second, .unset, .unset] [(.long (1000000000 : Int64)), (.long (0 : Int64))])) (fun _ kt_ => X4.ldc2Long hx hown (mvT hZ (hw _ (List.mem_of_getElem? (i := 29) rfl))) (g := (mkF m 28 #[.val (.ref wD), .val (.long (0 : Int64)), .second, .val (.long (2000000 : Int32).toInt64), .second, .unset, .unset] [(.long (0 : Int64))])) rfl (hb hby own_d3_28) _ kt_) ?_
  obtain ⟨_, _, ⟨T6, L6, k6, n6⟩, -, X6, ⟨Lc6, hQ6, l6, y6, z6⟩, st6⟩ := Jvm.LawKit.callS X4 hx (y := (⟨"java/lang/Math", "multiplyExact", "(JJ)J"⟩ : MethodName)) hown (mvT hZ (hw _ (List.mem_of_getElem? (i := 30) rfl))) (mvT hZ (hw _ (List.mem_of_getElem? (i := 31) rfl))) (mvT hZ (hw _ (List.mem_of_getElem? (i := 32) rfl))) (mvT hZ (hw _ (List.mem_of_getElem? (i := 33) rfl))) (by decide) (backOf (W := 0) (rmMul l Z a0 hw [] wM wD GS (0 : Int64) (1000000000 : Int64) h0 n0 (by omega) O0 (by decide +kernel)) hZ (hw _ (List.mem_of_getElem? (i := 33) rfl)) (hw _ (List.mem_of_getElem? (i := 32) rfl)) (by decide) (by decide)) (g := (mkF m 31 #[.val (.ref wD), .val (.long (0 : Int64)), .second, .val (.long (2000000 : Int32).toInt64), .second, .unset, .unset] [(.long (1000000000 : Int64)), (.long (0 : Int64))])) rfl (by rw [hml]; rfl) (argsL := [(.long (0 : Int64)), (.long (1000000000 : Int64))]) (rest := []) (lenOf own_pd_1 rfl) rfl (by show 2 * 0 + _ ≤ _; exact Nat.le_of_eq rfl) (hb hby own_d3_31) (fun _ _ => ⟨rfl, e4, (by decide : 0 + 0 ≤ _), (by decide : 0 + 0 ≤ _)⟩)
  dsimp only [Pt.U, Pt.locs, Pt.cells, Pt.slots] at X6 l6 y6 z6 st6 hQ6
  subst l6 y6 z6
  obtain ⟨rfl, N6q, e6⟩ := hQ6
  have N7 := Fr.app N0 N6q
  refine own_by (T' := T6) (g' := (mkF m 34 #[.val (.ref wD), .val (.long (0 : Int64)), .second, .val (.long (2000000 : Int32).toInt64), .second, .unset, .unset] [(.long ((0 : Int64) * (1000000000 : Int64)))])) st6 ?_
  refine own_by (T' := T6) (g' := (mkF m 36 #[.val (.ref wD), .val (.long (0 : Int64)), .second, .val (.long (2000000 : Int32).toInt64), .second, .val (.long ((0 : Int64) * (1000000000 : Int64))), .second] [])) (fun _ kt_ => XS.lstore X6.here hx rfl (hb hby own_d3_34) rfl (l' := #[.val (.ref wD), .val (.long (0 : Int64)), .second, .val (.long (2000000 : Int32).toInt64), .second, .val (.long ((0 : Int64) * (1000000000 : Int64))), .second]) rfl kt_) ?_
  refine own_by (T' := T6) (g' := (mkF m 38 #[.val (.ref wD), .val (.long (0 : Int64)), .second, .val (.long (2000000 : Int32).toInt64), .second, .val (.long ((0 : Int64) * (1000000000 : Int64))), .second] [(.long ((0 : Int64) * (1000000000 : Int64)))])) (fun _ kt_ => XS.lload X6.here hx rfl (hb hby own_d3_36) rfl kt_) ?_
  refine own_by (T' := T6) (g' := (mkF m 39 #[.val (.ref wD), .val (.long (0 : Int64)), .second, .val (.long (2000000 : Int32).toInt64), .second, .val (.long ((0 : Int64) * (1000000000 : Int64))), .second] [(.long (2000000 : Int32).toInt64), (.long ((0 : Int64) * (1000000000 : Int64)))])) (fun _ kt_ => XS.lloadN X6.here hx rfl (hb hby own_d3_38) rfl kt_) ?_
  obtain ⟨_, _, ⟨T8, L8, k8, n8⟩, -, X8, ⟨Lc8, hQ8, l8, y8, z8⟩, st8⟩ := Jvm.LawKit.callS X6 hx (y := (⟨"java/lang/Math", "addExact", "(JJ)J"⟩ : MethodName)) hown (mvT hZ (hw _ (List.mem_of_getElem? (i := 37) rfl))) (mvT hZ (hw _ (List.mem_of_getElem? (i := 38) rfl))) (mvT hZ (hw _ (List.mem_of_getElem? (i := 32) rfl))) (mvT hZ (hw _ (List.mem_of_getElem? (i := 39) rfl))) (by decide) (backOf (W := 0) (rmAdd l Z a0 hw [] wM wD GS ((0 : Int64) * (1000000000 : Int64)) ((2000000 : Int32).toInt64) h0 n0 (by omega) O0 (by decide +kernel)) hZ (hw _ (List.mem_of_getElem? (i := 39) rfl)) (hw _ (List.mem_of_getElem? (i := 32) rfl)) (by decide) (by decide)) (g := (mkF m 39 #[.val (.ref wD), .val (.long (0 : Int64)), .second, .val (.long (2000000 : Int32).toInt64), .second, .val (.long ((0 : Int64) * (1000000000 : Int64))), .second] [(.long (2000000 : Int32).toInt64), (.long ((0 : Int64) * (1000000000 : Int64)))])) rfl (by rw [hml]; rfl) (argsL := [(.long ((0 : Int64) * (1000000000 : Int64))), (.long (2000000 : Int32).toInt64)]) (rest := []) (lenOf own_pd_1 rfl) rfl (by show 2 * 0 + _ ≤ _; exact Nat.le_of_eq rfl) (hb hby own_d3_39) (fun _ _ => ⟨rfl, e6, (by decide : 0 + 0 ≤ _), (by decide : 0 + 0 ≤ _)⟩)
  dsimp only [Pt.U, Pt.locs, Pt.cells, Pt.slots] at X8 l8 y8 z8 st8 hQ8
  subst l8 y8 z8
  obtain ⟨rfl, N8q, e8⟩ := hQ8
  have N9 := Fr.app N7 N8q
  refine own_by (T' := T8) (g' := (mkF m 42 #[.val (.ref wD), .val (.long (0 : Int64)), .second, .val (.long (2000000 : Int32).toInt64), .second, .val (.long ((0 : Int64) * (1000000000 : Int64))), .second] [(.long (((0 : Int64) * (1000000000 : Int64)) + (2000000 : Int32).toInt64))])) st8 ?_
  refine own_by (T' := T8) (g' := (mkF m 44 #[.val (.ref wD), .val (.long (0 : Int64)), .second, .val (.long (2000000 : Int32).toInt64), .second, .val (.long (((0 : Int64) * (1000000000 : Int64)) + (2000000 : Int32).toInt64)), .second] [])) (fun _ kt_ => XS.lstore X8.here hx rfl (hb hby own_d3_42) rfl (l' := #[.val (.ref wD), .val (.long (0 : Int64)), .second, .val (.long (2000000 : Int32).toInt64), .second, .val (.long (((0 : Int64) * (1000000000 : Int64)) + (2000000 : Int32).toInt64)), .second]) rfl kt_) ?_
  refine own_by (T' := T8) (g' := (mkF m 46 #[.val (.ref wD), .val (.long (0 : Int64)), .second, .val (.long (2000000 : Int32).toInt64), .second, .val (.long (((0 : Int64) * (1000000000 : Int64)) + (2000000 : Int32).toInt64)), .second] [(.long (((0 : Int64) * (1000000000 : Int64)) + (2000000 : Int32).toInt64))])) (fun _ kt_ => XS.lload X8.here hx rfl (hb hby own_d3_44) rfl kt_) ?_
  have hr10 : (((0 : Int64) * (1000000000 : Int64)) + (2000000 : Int32).toInt64) = (2000000 : Int64) := by decide
  obtain ⟨fs11, hr11, hrun11, hended11, hW11, hsame11⟩ := X8.leave (v := some (.long (((0 : Int64) * (1000000000 : Int64)) + (2000000 : Int32).toInt64))) (fun h => by rw [Bd.returns] at h; cases h)
  refine ⟨_, _, retOut X8 hx (t := .long) Bd.returns rfl (Or.inr (Or.inl ⟨rfl, rfl, _, rfl⟩)) (hb hby own_d3_46) hr11, hrun11, hended11, _, _, rfl, ?_, ⟨_, rfl⟩, hW11, hsame11.mono (by decide) (by decide)⟩
  show Q_rmDur Z wM wD h0 n0 _ T8.heap _
  exact ⟨(congrArg (fun z => some (Value.long z)) hr10), N9, e8⟩
theorem own_d2_0 : decode jdk_2799_method_7_code 0 = .ok (.aload_n 0, 1) := by decide +kernel
theorem own_d2_1 : decode jdk_2799_method_7_code 1 = .ok (.getfield 44, 3) := by decide +kernel
theorem own_d2_4 : decode jdk_2799_method_7_code 4 = .ok (.dup2, 1) := by decide +kernel
theorem own_d2_5 : decode jdk_2799_method_7_code 5 = .ok (.lstore_n 3, 1) := by decide +kernel
theorem own_d2_6 : decode jdk_2799_method_7_code 6 = .ok (.lconst 1, 1) := by decide +kernel
theorem own_d2_7 : decode jdk_2799_method_7_code 7 = .ok (.lcmp, 1) := by decide +kernel
theorem own_d2_8 : decode jdk_2799_method_7_code 8 = .ok (.ifCond .ne 5, 3) := by decide +kernel
theorem own_d2_13 : decode jdk_2799_method_7_code 13 = .ok (.lload_n 1, 1) := by decide +kernel
theorem own_d2_14 : decode jdk_2799_method_7_code 14 = .ok (.aload_n 0, 1) := by decide +kernel
theorem own_d2_15 : decode jdk_2799_method_7_code 15 = .ok (.getfield 52, 3) := by decide +kernel
theorem own_d2_18 : decode jdk_2799_method_7_code 18 = .ok (.dup2, 1) := by decide +kernel
theorem own_d2_19 : decode jdk_2799_method_7_code 19 = .ok (.lstore 5, 2) := by decide +kernel
theorem own_d2_21 : decode jdk_2799_method_7_code 21 = .ok (.lcmp, 1) := by decide +kernel
theorem own_d2_22 : decode jdk_2799_method_7_code 22 = .ok (.ifCond .le 7, 3) := by decide +kernel
theorem own_d2_25 : decode jdk_2799_method_7_code 25 = .ok (.ldc2_w 50, 3) := by decide +kernel
theorem own_d2_28 : decode jdk_2799_method_7_code 28 = .ok (.lreturn, 1) := by decide +kernel
theorem own_d2_29 : decode jdk_2799_method_7_code 29 = .ok (.lload_n 1, 1) := by decide +kernel
theorem own_d2_30 : decode jdk_2799_method_7_code 30 = .ok (.lload 5, 2) := by decide +kernel
theorem own_d2_32 : decode jdk_2799_method_7_code 32 = .ok (.lneg, 1) := by decide +kernel
theorem own_d2_33 : decode jdk_2799_method_7_code 33 = .ok (.lcmp, 1) := by decide +kernel
theorem own_d2_34 : decode jdk_2799_method_7_code 34 = .ok (.ifCond .ge 7, 3) := by decide +kernel
theorem own_d2_41 : decode jdk_2799_method_7_code 41 = .ok (.lload_n 1, 1) := by decide +kernel
theorem own_d2_42 : decode jdk_2799_method_7_code 42 = .ok (.lload_n 3, 1) := by decide +kernel
theorem own_d2_43 : decode jdk_2799_method_7_code 43 = .ok (.lmul, 1) := by decide +kernel
theorem own_d2_44 : decode jdk_2799_method_7_code 44 = .ok (.lreturn, 1) := by decide +kernel
theorem own_pn_java_util_concurrent_TimeUnit : plainName "java/util/concurrent/TimeUnit" = true := by first | (simp [plainName, overriddenIn]; done) | decide +kernel
theorem own_ef_rmN (m : MethodId) (x0 : Addr) (x1 : Int64) : entryFrame m #[(.ref x0), (.long x1)] 7 = mkF m 0 #[.val (.ref x0), .val (.long x1), .second, .unset, .unset, .unset, .unset] [] := by first | (simp [entryFrame, mkF, argsToLocals, Value.category]; done) | rfl
def Q_rmN (Z : State) (wM : Addr) (wD : Addr) (d : Int64) (h0 : Heap) (n0 : Nat) (vv_ : Option Value) (hh_ : Heap) (LL_ : List Loc) : Prop := vv_ = some (.long (nanoF d)) ∧ Fr n0 LL_ ∧ hh_ = h0
set_option maxRecDepth 65536 in
set_option maxHeartbeats 40000000 in
theorem rmN (l : Launch) (Z : State) (a0 : Array Value) (hw : ∀ d ∈ tables_1, d.before a0 Z = true) (ws : List Jvm.Cond) (wM : Addr) (wD : Addr) (GS : Glob Z wM wD) (d : Int64) (h0 : Heap) (n0 : Nat) (Z0 : n0 ≤ h0.size) (O0 : Old Z n0 h0) (hd : 0 ≤ d.toInt) :
    MetFree l (⟨"java/util/concurrent/TimeUnit", "toNanos", "(J)J"⟩ : MethodName) (head1 (Jvm.Cond.code (⟨"java/util/concurrent/TimeUnit", "toNanos", "(J)J"⟩ : MethodName) jdk_2799_method_7_code 7 (some .long) :: ws) ({ frames := 0, cells := 0, slots := 0, locals := 0 } : Room)) (fun aa_ UU_ => aa_ = #[(.ref wM), (.long d)] ∧ Z.Warmed39 UU_.vm ∧ UU_.heap = h0) (fun _ _ _ _ _ => True) (fun _ UU_ oo_ UV_ => ∃ vv_ LL_, oo_ = .returned vv_ ∧ Q_rmN Z wM wD d h0 n0 vv_ UV_.heap LL_ ∧ FrameEnd UU_ oo_ UV_ LL_ ({ frames := 0, cells := 0, slots := 0, locals := 0 } : Room).cells ({ frames := 0, cells := 0, slots := 0, locals := 0 } : Room).slots) := by
  refine MetFree.of_bodySF (plainFor_of_name own_pn_java_util_concurrent_TimeUnit) hisR ?_
  intro p e s m args below meth c s₁ Bd hml0 hP hK
  obtain ⟨rfl, hZ, hh⟩ := hP
  have hx := Bd.exec
  have hby := Bd.bytes
  have hml : c.maxLocals = 7 := hml0
  have hown : s.vm.findClass "java/util/concurrent/TimeUnit" = some m.cls := findClass_of_methodNamed Bd.named
  have hnm := (name_of_methodNamed Bd.named Bd.method).1
  have X0 : Stand p l e ({ frames := 0, cells := 0, slots := 0, locals := 0 } : Room) s m #[(.ref wM), (.long d)] below meth c s₁ [] 0 0 := Stand.of_body Bd
  have e0 : s₁.heap = h0 := by rw [← hh, Bd.state]; rfl
  have N0 := Fr.nil n0
  have hn0 : Z.heap.size = n0 := O0.1
  have KT0 : Keep h0 h0 [] := Keep.refl _ _
  refine own_enter (Φ := fun oo_ UV_ => ∃ vv_ LL_, oo_ = .returned vv_ ∧ Q_rmN Z wM wD d h0 n0 vv_ UV_.heap LL_ ∧ FrameEnd s oo_ UV_ LL_ ({ frames := 0, cells := 0, slots := 0, locals := 0 } : Room).cells ({ frames := 0, cells := 0, slots := 0, locals := 0 } : Room).slots) (own_ef_rmN m wM d) ?_
  refine own_by (T' := s₁) (g' := (mkF m 1 #[.val (.ref wM), .val (.long d), .second, .unset, .unset, .unset, .unset] [(.ref wM)])) (fun _ kt_ => XS.aloadN X0.here hx rfl (hb hby own_d2_0) rfl rfl kt_) ?_
  have f1 := GS.2.2.2.1.ext O0.2
  obtain ⟨T2, X2, e2, st2⟩ := getF X0 hx hZ hown (host := "") (Or.inl (hw _ (List.mem_of_getElem? (i := 12) rfl))) Via.refl e0 f1 (g := (mkF m 1 #[.val (.ref wM), .val (.long d), .second, .unset, .unset, .unset, .unset] [(.ref wM)])) rfl rfl (hb hby own_d2_1)
  refine own_by (T' := T2) (g' := (mkF m 4 #[.val (.ref wM), .val (.long d), .second, .unset, .unset, .unset, .unset] [(.long (1000000 : Int64))])) st2 ?_
  refine own_by (T' := T2) (g' := (mkF m 5 #[.val (.ref wM), .val (.long d), .second, .unset, .unset, .unset, .unset] [(.long (1000000 : Int64)), (.long (1000000 : Int64))])) (fun _ kt_ => ?_) ?_
  · show Steps p.tables e below (T2.setTop (mkF m 4 #[.val (.ref wM), .val (.long d), .second, .unset, .unset, .unset, .unset] [(.long (1000000 : Int64))])) _
    jvm_step X2.here [X2.here.top, hx, (hb hby own_d2_4), Value.category]
    exact kt_
  refine own_by (T' := T2) (g' := (mkF m 6 #[.val (.ref wM), .val (.long d), .second, .val (.long (1000000 : Int64)), .second, .unset, .unset] [(.long (1000000 : Int64))])) (fun _ kt_ => XS.lstoreN X2.here hx rfl (hb hby own_d2_5) rfl (l' := #[.val (.ref wM), .val (.long d), .second, .val (.long (1000000 : Int64)), .second, .unset, .unset]) rfl kt_) ?_
  refine own_by (T' := T2) (g' := (mkF m 7 #[.val (.ref wM), .val (.long d), .second, .val (.long (1000000 : Int64)), .second, .unset, .unset] [(.long (1 : Int64)), (.long (1000000 : Int64))])) (fun _ kt_ => XS.lconst X2.here hx rfl (hb hby own_d2_6) kt_) ?_
  refine own_by (T' := T2) (g' := (mkF m 8 #[.val (.ref wM), .val (.long d), .second, .val (.long (1000000 : Int64)), .second, .unset, .unset] [(.int (XT.cmpL (1000000 : Int64) (1 : Int64)))])) (fun _ kt_ => XT.lcmp X2.here hx rfl (hb hby own_d2_7) rfl kt_) ?_
  refine own_by (T' := T2) (g' := (mkF m 13 #[.val (.ref wM), .val (.long d), .second, .val (.long (1000000 : Int64)), .second, .unset, .unset] [])) (fun _ kt_ => XS.ifYes X2.here hx rfl (pc0 := 8) (pc' := 13) rfl (hb hby own_d2_8) rfl (XT.ll_ne_t (by decide)) (by decide) (by decide) kt_) ?_
  refine own_by (T' := T2) (g' := (mkF m 14 #[.val (.ref wM), .val (.long d), .second, .val (.long (1000000 : Int64)), .second, .unset, .unset] [(.long d)])) (fun _ kt_ => XS.lloadN X2.here hx rfl (hb hby own_d2_13) rfl kt_) ?_
  refine own_by (T' := T2) (g' := (mkF m 15 #[.val (.ref wM), .val (.long d), .second, .val (.long (1000000 : Int64)), .second, .unset, .unset] [(.ref wM), (.long d)])) (fun _ kt_ => XS.aloadN X2.here hx rfl (hb hby own_d2_14) rfl rfl kt_) ?_
  have f3 := GS.2.2.2.2.1.ext O0.2
  obtain ⟨T4, X4, e4, st4⟩ := getF X2 hx hZ hown (host := "") (Or.inl (hw _ (List.mem_of_getElem? (i := 14) rfl))) Via.refl e2 f3 (g := (mkF m 15 #[.val (.ref wM), .val (.long d), .second, .val (.long (1000000 : Int64)), .second, .unset, .unset] [(.ref wM), (.long d)])) rfl rfl (hb hby own_d2_15)
  refine own_by (T' := T4) (g' := (mkF m 18 #[.val (.ref wM), .val (.long d), .second, .val (.long (1000000 : Int64)), .second, .unset, .unset] [(.long (9223372036854 : Int64)), (.long d)])) st4 ?_
  refine own_by (T' := T4) (g' := (mkF m 19 #[.val (.ref wM), .val (.long d), .second, .val (.long (1000000 : Int64)), .second, .unset, .unset] [(.long (9223372036854 : Int64)), (.long (9223372036854 : Int64)), (.long d)])) (fun _ kt_ => ?_) ?_
  · show Steps p.tables e below (T4.setTop (mkF m 18 #[.val (.ref wM), .val (.long d), .second, .val (.long (1000000 : Int64)), .second, .unset, .unset] [(.long (9223372036854 : Int64)), (.long d)])) _
    jvm_step X4.here [X4.here.top, hx, (hb hby own_d2_18), Value.category]
    exact kt_
  refine own_by (T' := T4) (g' := (mkF m 21 #[.val (.ref wM), .val (.long d), .second, .val (.long (1000000 : Int64)), .second, .val (.long (9223372036854 : Int64)), .second] [(.long (9223372036854 : Int64)), (.long d)])) (fun _ kt_ => XS.lstore X4.here hx rfl (hb hby own_d2_19) rfl (l' := #[.val (.ref wM), .val (.long d), .second, .val (.long (1000000 : Int64)), .second, .val (.long (9223372036854 : Int64)), .second]) rfl kt_) ?_
  refine own_by (T' := T4) (g' := (mkF m 22 #[.val (.ref wM), .val (.long d), .second, .val (.long (1000000 : Int64)), .second, .val (.long (9223372036854 : Int64)), .second] [(.int (XT.cmpL d (9223372036854 : Int64)))])) (fun _ kt_ => XT.lcmp X4.here hx rfl (hb hby own_d2_21) rfl kt_) ?_
  by_cases hc5 : (9223372036854 : Int64) < d
  · refine own_by (T' := T4) (g' := (mkF m 25 #[.val (.ref wM), .val (.long d), .second, .val (.long (1000000 : Int64)), .second, .val (.long (9223372036854 : Int64)), .second] [])) (fun _ kt_ => XS.ifNo X4.here hx rfl (hb hby own_d2_22) rfl (XT.ll_le_f hc5) kt_) ?_
    refine own_by (T' := T4) (g' := (mkF m 28 #[.val (.ref wM), .val (.long d), .second, .val (.long (1000000 : Int64)), .second, .val (.long (9223372036854 : Int64)), .second] [(.long (9223372036854775807 : Int64))])) (fun _ kt_ => X4.ldc2Long hx hown (mvT hZ (hw _ (List.mem_of_getElem? (i := 43) rfl))) (g := (mkF m 25 #[.val (.ref wM), .val (.long d), .second, .val (.long (1000000 : Int64)), .second, .val (.long (9223372036854 : Int64)), .second] [])) rfl (hb hby own_d2_25) _ kt_) ?_
    have hr7 : (9223372036854775807 : Int64) = (nanoF d) := by simp [nanoF, hc5]
    obtain ⟨fs8, hr8, hrun8, hended8, hW8, hsame8⟩ := X4.leave (v := some (.long (9223372036854775807 : Int64))) (fun h => by rw [Bd.returns] at h; cases h)
    refine ⟨_, _, retOut X4 hx (t := .long) Bd.returns rfl (Or.inr (Or.inl ⟨rfl, rfl, _, rfl⟩)) (hb hby own_d2_28) hr8, hrun8, hended8, _, _, rfl, ?_, ⟨_, rfl⟩, hW8, hsame8.mono (by decide) (by decide)⟩
    show Q_rmN Z wM wD d h0 n0 _ T4.heap _
    exact ⟨(congrArg (fun z => some (Value.long z)) hr7), N0, e4⟩
  · refine own_by (T' := T4) (g' := (mkF m 29 #[.val (.ref wM), .val (.long d), .second, .val (.long (1000000 : Int64)), .second, .val (.long (9223372036854 : Int64)), .second] [])) (fun _ kt_ => XS.ifYes X4.here hx rfl (pc0 := 22) (pc' := 29) rfl (hb hby own_d2_22) rfl (XT.ll_le_t hc5) (by decide) (by decide) kt_) ?_
    refine own_by (T' := T4) (g' := (mkF m 30 #[.val (.ref wM), .val (.long d), .second, .val (.long (1000000 : Int64)), .second, .val (.long (9223372036854 : Int64)), .second] [(.long d)])) (fun _ kt_ => XS.lloadN X4.here hx rfl (hb hby own_d2_29) rfl kt_) ?_
    refine own_by (T' := T4) (g' := (mkF m 32 #[.val (.ref wM), .val (.long d), .second, .val (.long (1000000 : Int64)), .second, .val (.long (9223372036854 : Int64)), .second] [(.long (9223372036854 : Int64)), (.long d)])) (fun _ kt_ => XS.lload X4.here hx rfl (hb hby own_d2_30) rfl kt_) ?_
    refine own_by (T' := T4) (g' := (mkF m 33 #[.val (.ref wM), .val (.long d), .second, .val (.long (1000000 : Int64)), .second, .val (.long (9223372036854 : Int64)), .second] [(.long (-(9223372036854 : Int64))), (.long d)])) (fun _ kt_ => XS.lneg X4.here hx rfl (hb hby own_d2_32) rfl kt_) ?_
    refine own_by (T' := T4) (g' := (mkF m 34 #[.val (.ref wM), .val (.long d), .second, .val (.long (1000000 : Int64)), .second, .val (.long (9223372036854 : Int64)), .second] [(.int (XT.cmpL d (-(9223372036854 : Int64))))])) (fun _ kt_ => XT.lcmp X4.here hx rfl (hb hby own_d2_33) rfl kt_) ?_
    refine own_by (T' := T4) (g' := (mkF m 41 #[.val (.ref wM), .val (.long d), .second, .val (.long (1000000 : Int64)), .second, .val (.long (9223372036854 : Int64)), .second] [])) (fun _ kt_ => XS.ifYes X4.here hx rfl (pc0 := 34) (pc' := 41) rfl (hb hby own_d2_34) rfl (XT.ll_ge_t (by have e : (-(9223372036854 : Int64)).toInt = -9223372036854 := rfl; rw [Int64.lt_iff_toInt_lt, e]; omega)) (by decide) (by decide) kt_) ?_
    refine own_by (T' := T4) (g' := (mkF m 42 #[.val (.ref wM), .val (.long d), .second, .val (.long (1000000 : Int64)), .second, .val (.long (9223372036854 : Int64)), .second] [(.long d)])) (fun _ kt_ => XS.lloadN X4.here hx rfl (hb hby own_d2_41) rfl kt_) ?_
    refine own_by (T' := T4) (g' := (mkF m 43 #[.val (.ref wM), .val (.long d), .second, .val (.long (1000000 : Int64)), .second, .val (.long (9223372036854 : Int64)), .second] [(.long (1000000 : Int64)), (.long d)])) (fun _ kt_ => XS.lloadN X4.here hx rfl (hb hby own_d2_42) rfl kt_) ?_
    refine own_by (T' := T4) (g' := (mkF m 44 #[.val (.ref wM), .val (.long d), .second, .val (.long (1000000 : Int64)), .second, .val (.long (9223372036854 : Int64)), .second] [(.long (d * (1000000 : Int64)))])) (fun _ kt_ => XS.lmul X4.here hx rfl (hb hby own_d2_43) rfl kt_) ?_
    have hr9 : (d * (1000000 : Int64)) = (nanoF d) := by simp [nanoF, hc5]
    obtain ⟨fs10, hr10, hrun10, hended10, hW10, hsame10⟩ := X4.leave (v := some (.long (d * (1000000 : Int64)))) (fun h => by rw [Bd.returns] at h; cases h)
    refine ⟨_, _, retOut X4 hx (t := .long) Bd.returns rfl (Or.inr (Or.inl ⟨rfl, rfl, _, rfl⟩)) (hb hby own_d2_44) hr10, hrun10, hended10, _, _, rfl, ?_, ⟨_, rfl⟩, hW10, hsame10.mono (by decide) (by decide)⟩
    show Q_rmN Z wM wD d h0 n0 _ T4.heap _
    exact ⟨(congrArg (fun z => some (Value.long z)) hr9), N0, e4⟩
theorem own_pd_2 : parseMethodDescriptor "()J" = some ⟨[], some .long⟩ := by decide +kernel
theorem own_d1_0 : decode prog_2_method_2_code 0 = .ok (.getstatic 7, 3) := by decide +kernel
theorem own_d1_3 : decode prog_2_method_2_code 3 = .ok (.lload_n 0, 1) := by decide +kernel
theorem own_d1_4 : decode prog_2_method_2_code 4 = .ok (.invokevirtual 13, 3) := by decide +kernel
theorem own_d1_7 : decode prog_2_method_2_code 7 = .ok (.lstore_n 2, 1) := by decide +kernel
theorem own_d1_8 : decode prog_2_method_2_code 8 = .ok (.lload_n 2, 1) := by decide +kernel
theorem own_d1_9 : decode prog_2_method_2_code 9 = .ok (.lload_n 2, 1) := by decide +kernel
theorem own_d1_10 : decode prog_2_method_2_code 10 = .ok (.ldc2_w 19, 3) := by decide +kernel
theorem own_d1_13 : decode prog_2_method_2_code 13 = .ok (.ldiv, 1) := by decide +kernel
theorem own_d1_14 : decode prog_2_method_2_code 14 = .ok (.lsub, 1) := by decide +kernel
theorem own_d1_15 : decode prog_2_method_2_code 15 = .ok (.getstatic 21, 3) := by decide +kernel
theorem own_d1_18 : decode prog_2_method_2_code 18 = .ok (.invokevirtual 25, 3) := by decide +kernel
theorem own_d1_21 : decode prog_2_method_2_code 21 = .ok (.lsub, 1) := by decide +kernel
theorem own_d1_22 : decode prog_2_method_2_code 22 = .ok (.lreturn, 1) := by decide +kernel
theorem own_pn_com_example_leasy_leasy_LeaseLength : plainName "com/example/leasy/leasy/LeaseLength" = true := by first | (simp [plainName, overriddenIn]; done) | decide +kernel
theorem own_ef_rmT (m : MethodId) (x0 : Int64) : entryFrame m #[(.long x0)] 4 = mkF m 0 #[.val (.long x0), .second, .unset, .unset] [] := by first | (simp [entryFrame, mkF, argsToLocals, Value.category]; done) | rfl
def Q_rmT (Z : State) (wM : Addr) (wD : Addr) (q : Int64) (h0 : Heap) (n0 : Nat) (vv_ : Option Value) (hh_ : Heap) (LL_ : List Loc) : Prop := vv_ = some (.long (tnF q)) ∧ Fr n0 LL_ ∧ hh_ = h0
set_option maxRecDepth 65536 in
set_option maxHeartbeats 40000000 in
theorem rmT (l : Launch) (Z : State) (a0 : Array Value) (hw : ∀ d ∈ tables_1, d.before a0 Z = true) (ws : List Jvm.Cond) (wM : Addr) (wD : Addr) (GS : Glob Z wM wD) (q : Int64) (h0 : Heap) (n0 : Nat) (Z0 : n0 ≤ h0.size) (O0 : Old Z n0 h0) (hd : 0 ≤ q.toInt) :
    MetFree l (⟨"com/example/leasy/leasy/LeaseLength", "trustedNanos", "(J)J"⟩ : MethodName) (head1 (Jvm.Cond.code (⟨"com/example/leasy/leasy/LeaseLength", "trustedNanos", "(J)J"⟩ : MethodName) prog_2_method_2_code 4 (some .long) :: ws) ({ frames := 3, cells := 0, slots := 0, locals := 54 } : Room)) (fun aa_ UU_ => aa_ = #[(.long q)] ∧ Z.Warmed39 UU_.vm ∧ UU_.heap = h0) (fun _ _ _ _ _ => True) (fun _ UU_ oo_ UV_ => ∃ vv_ LL_, oo_ = .returned vv_ ∧ Q_rmT Z wM wD q h0 n0 vv_ UV_.heap LL_ ∧ FrameEnd UU_ oo_ UV_ LL_ ({ frames := 3, cells := 0, slots := 0, locals := 54 } : Room).cells ({ frames := 3, cells := 0, slots := 0, locals := 54 } : Room).slots) := by
  refine MetFree.of_bodySF (plainFor_of_name own_pn_com_example_leasy_leasy_LeaseLength) hisR ?_
  intro p e s m args below meth c s₁ Bd hml0 hP hK
  obtain ⟨rfl, hZ, hh⟩ := hP
  have hx := Bd.exec
  have hby := Bd.bytes
  have hml : c.maxLocals = 4 := hml0
  have hown : s.vm.findClass "com/example/leasy/leasy/LeaseLength" = some m.cls := findClass_of_methodNamed Bd.named
  have hnm := (name_of_methodNamed Bd.named Bd.method).1
  have X0 : Stand p l e ({ frames := 3, cells := 0, slots := 0, locals := 54 } : Room) s m #[(.long q)] below meth c s₁ [] 0 0 := Stand.of_body Bd
  have e0 : s₁.heap = h0 := by rw [← hh, Bd.state]; rfl
  have N0 := Fr.nil n0
  have hn0 : Z.heap.size = n0 := O0.1
  have KT0 : Keep h0 h0 [] := Keep.refl _ _
  refine own_enter (Φ := fun oo_ UV_ => ∃ vv_ LL_, oo_ = .returned vv_ ∧ Q_rmT Z wM wD q h0 n0 vv_ UV_.heap LL_ ∧ FrameEnd s oo_ UV_ LL_ ({ frames := 3, cells := 0, slots := 0, locals := 54 } : Room).cells ({ frames := 3, cells := 0, slots := 0, locals := 54 } : Room).slots) (own_ef_rmT m q) ?_
  have f1 := GS.1.ext O0.2
  obtain ⟨T2, X2, e2, st2⟩ := getS2 X0 hx hZ hown (host := "") (Or.inl (hw _ (List.mem_of_getElem? (i := 5) rfl))) Via.refl e0 f1 (g := (mkF m 0 #[.val (.long q), .second, .unset, .unset] [])) rfl (hb hby own_d1_0)
  refine own_by (T' := T2) (g' := (mkF m 3 #[.val (.long q), .second, .unset, .unset] [(.ref wM)])) st2 ?_
  refine own_by (T' := T2) (g' := (mkF m 4 #[.val (.long q), .second, .unset, .unset] [(.long q), (.ref wM)])) (fun _ kt_ => XS.lloadN X2.here hx rfl (hb hby own_d1_3) rfl kt_) ?_
  have f4 := GS.2.1.ext O0.2
  obtain ⟨cq3, kq3, q3a, q3b, q3c⟩ := isOf hZ e2 f4
  obtain ⟨_, _, ⟨T3, L3, k3, n3⟩, -, X3, ⟨Lc3, hQ3, l3, y3, z3⟩, st3⟩ := X2.virtualBack hx (y := (⟨"java/util/concurrent/TimeUnit", "toNanos", "(J)J"⟩ : MethodName)) (z := (⟨"java/util/concurrent/TimeUnit", "toNanos", "(J)J"⟩ : MethodName)) hown (mvT hZ (hw _ (List.mem_of_getElem? (i := 7) rfl))) (mvT hZ (hw _ (List.mem_of_getElem? (i := 8) rfl))) (notFace_of_selects (args := #[]) (mvT hZ (hw _ (List.mem_of_getElem? (i := 10) rfl)))) (mvT hZ (hw _ (List.mem_of_getElem? (i := 10) rfl))) (mvT hZ (hw _ (List.mem_of_getElem? (i := 9) rfl))) (by decide) (backOf (W := 0) (rmN l Z a0 hw [] wM wD GS q h0 n0 (by omega) O0 hd) hZ (hw _ (List.mem_of_getElem? (i := 11) rfl)) (hw _ (List.mem_of_getElem? (i := 6) rfl)) (by decide) (by decide)) q3a q3c (g := (mkF m 4 #[.val (.long q), .second, .unset, .unset] [(.long q), (.ref wM)])) rfl (by rw [hml]; rfl) (Steps.refl _) (argsL := [(.long q)]) (rest := []) (lenOf own_pd_0 rfl) rfl (by show 2 * 0 + _ ≤ _; exact Nat.le_of_eq rfl) (hb hby own_d1_4) (fun _ _ => ⟨rfl, e2, (by decide : 0 + 0 ≤ _), (by decide : 0 + 0 ≤ _)⟩)
  dsimp only [Pt.U, Pt.locs, Pt.cells, Pt.slots] at X3 l3 y3 z3 st3 hQ3
  subst l3 y3 z3
  obtain ⟨rfl, N3q, e3⟩ := hQ3
  have N5 := Fr.app N0 N3q
  refine own_by (T' := T3) (g' := (mkF m 7 #[.val (.long q), .second, .unset, .unset] [(.long (nanoF q))])) (fun _ kt_ => st3.trans kt_) ?_
  refine own_by (T' := T3) (g' := (mkF m 8 #[.val (.long q), .second, .val (.long (nanoF q)), .second] [])) (fun _ kt_ => XS.lstoreN X3.here hx rfl (hb hby own_d1_7) rfl (l' := #[.val (.long q), .second, .val (.long (nanoF q)), .second]) rfl kt_) ?_
  refine own_by (T' := T3) (g' := (mkF m 9 #[.val (.long q), .second, .val (.long (nanoF q)), .second] [(.long (nanoF q))])) (fun _ kt_ => XS.lloadN X3.here hx rfl (hb hby own_d1_8) rfl kt_) ?_
  refine own_by (T' := T3) (g' := (mkF m 10 #[.val (.long q), .second, .val (.long (nanoF q)), .second] [(.long (nanoF q)), (.long (nanoF q))])) (fun _ kt_ => XS.lloadN X3.here hx rfl (hb hby own_d1_9) rfl kt_) ?_
  refine own_by (T' := T3) (g' := (mkF m 13 #[.val (.long q), .second, .val (.long (nanoF q)), .second] [(.long (100 : Int64)), (.long (nanoF q)), (.long (nanoF q))])) (fun _ kt_ => X3.ldc2Long hx hown (mvT hZ (hw _ (List.mem_of_getElem? (i := 16) rfl))) (g := (mkF m 10 #[.val (.long q), .second, .val (.long (nanoF q)), .second] [(.long (nanoF q)), (.long (nanoF q))])) rfl (hb hby own_d1_10) _ kt_) ?_
  refine own_by (T' := T3) (g' := (mkF m 14 #[.val (.long q), .second, .val (.long (nanoF q)), .second] [(.long ((nanoF q) / (100 : Int64))), (.long (nanoF q))])) (fun _ kt_ => XS.ldiv X3.here hx rfl (hb hby own_d1_13) rfl (by decide) kt_) ?_
  refine own_by (T' := T3) (g' := (mkF m 15 #[.val (.long q), .second, .val (.long (nanoF q)), .second] [(.long ((nanoF q) - ((nanoF q) / (100 : Int64))))])) (fun _ kt_ => XS.lsub X3.here hx rfl (hb hby own_d1_14) rfl kt_) ?_
  have f7 := GS.2.2.2.2.2.1.ext O0.2
  obtain ⟨T8, X8, e8, st8⟩ := getS2 X3 hx hZ hown (host := "") (Or.inl (hw _ (List.mem_of_getElem? (i := 17) rfl))) Via.refl e3 f7 (g := (mkF m 15 #[.val (.long q), .second, .val (.long (nanoF q)), .second] [(.long ((nanoF q) - ((nanoF q) / (100 : Int64))))])) rfl (hb hby own_d1_15)
  refine own_by (T' := T8) (g' := (mkF m 18 #[.val (.long q), .second, .val (.long (nanoF q)), .second] [(.ref wD), (.long ((nanoF q) - ((nanoF q) / (100 : Int64))))])) st8 ?_
  have f10 := GS.2.2.2.2.2.2.1.ext O0.2
  obtain ⟨cq9, kq9, q9a, q9b, q9c⟩ := isOf hZ e8 f10
  obtain ⟨_, _, ⟨T9, L9, k9, n9⟩, -, X9, ⟨Lc9, hQ9, l9, y9, z9⟩, st9⟩ := X8.virtualBack hx (y := (⟨"java/time/Duration", "toNanos", "()J"⟩ : MethodName)) (z := (⟨"java/time/Duration", "toNanos", "()J"⟩ : MethodName)) hown (mvT hZ (hw _ (List.mem_of_getElem? (i := 19) rfl))) (mvT hZ (hw _ (List.mem_of_getElem? (i := 20) rfl))) (notFace_of_selects (args := #[]) (mvT hZ (hw _ (List.mem_of_getElem? (i := 22) rfl)))) (mvT hZ (hw _ (List.mem_of_getElem? (i := 22) rfl))) (mvT hZ (hw _ (List.mem_of_getElem? (i := 21) rfl))) (by decide) (backOf (W := 2) (rmDur l Z a0 hw [] wM wD GS  h0 n0 (by omega) O0 ) hZ (hw _ (List.mem_of_getElem? (i := 24) rfl)) (hw _ (List.mem_of_getElem? (i := 23) rfl)) (by decide) (by decide)) q9a q9c (g := (mkF m 18 #[.val (.long q), .second, .val (.long (nanoF q)), .second] [(.ref wD), (.long ((nanoF q) - ((nanoF q) / (100 : Int64))))])) rfl (by rw [hml]; rfl) (Steps.refl _) (argsL := []) (rest := [(.long ((nanoF q) - ((nanoF q) / (100 : Int64))))]) (lenOf own_pd_2 rfl) rfl (by show 2 * 0 + _ ≤ _; exact Nat.le_of_eq rfl) (hb hby own_d1_18) (fun _ _ => ⟨rfl, e8, (by decide : 0 + 0 ≤ _), (by decide : 0 + 0 ≤ _)⟩)
  dsimp only [Pt.U, Pt.locs, Pt.cells, Pt.slots] at X9 l9 y9 z9 st9 hQ9
  subst l9 y9 z9
  obtain ⟨rfl, N9q, e9⟩ := hQ9
  have N11 := Fr.app N5 N9q
  refine own_by (T' := T9) (g' := (mkF m 21 #[.val (.long q), .second, .val (.long (nanoF q)), .second] [(.long (2000000 : Int64)), (.long ((nanoF q) - ((nanoF q) / (100 : Int64))))])) (fun _ kt_ => st9.trans kt_) ?_
  refine own_by (T' := T9) (g' := (mkF m 22 #[.val (.long q), .second, .val (.long (nanoF q)), .second] [(.long (((nanoF q) - ((nanoF q) / (100 : Int64))) - (2000000 : Int64)))])) (fun _ kt_ => XS.lsub X9.here hx rfl (hb hby own_d1_21) rfl kt_) ?_
  have hr12 : (((nanoF q) - ((nanoF q) / (100 : Int64))) - (2000000 : Int64)) = (tnF q) := rfl
  obtain ⟨fs13, hr13, hrun13, hended13, hW13, hsame13⟩ := X9.leave (v := some (.long (((nanoF q) - ((nanoF q) / (100 : Int64))) - (2000000 : Int64)))) (fun h => by rw [Bd.returns] at h; cases h)
  refine ⟨_, _, retOut X9 hx (t := .long) Bd.returns rfl (Or.inr (Or.inl ⟨rfl, rfl, _, rfl⟩)) (hb hby own_d1_22) hr13, hrun13, hended13, _, _, rfl, ?_, ⟨_, rfl⟩, hW13, hsame13.mono (by decide) (by decide)⟩
  show Q_rmT Z wM wD q h0 n0 _ T9.heap _
  exact ⟨(congrArg (fun z => some (Value.long z)) hr12), N11, e9⟩
theorem own_pn_com_example_leasy_leasy_LeaseLengthTrustedNanosPinLaw : plainName "com/example/leasy/leasy/LeaseLengthTrustedNanosPinLaw" = true := by first | (simp [plainName, overriddenIn]; done) | decide +kernel
theorem own_ef_rm0 (m : MethodId) (x0 : Int64) (x1 : Int32) : entryFrame m #[(.long x0), (.int x1)] maxLocals = mkF m 0 #[.val (.long x0), .second, .val (.int x1), .unset, .unset, .unset, .unset, .unset, .unset] [] := by first | (simp [entryFrame, mkF, argsToLocals, Value.category, maxLocals]; done) | rfl
def Q_rm0 (Z : State) (wM : Addr) (wD : Addr) (x0 : Int64) (pk : Int32) (h0 : Heap) (n0 : Nat) (vv_ : Option Value) (hh_ : Heap) (LL_ : List Loc) : Prop := vv_ = some (.int (1 : Int32)) ∧ Fr n0 LL_
set_option maxRecDepth 65536 in
set_option maxHeartbeats 40000000 in
theorem rm0 (l : Launch) (Z : State) (a0 : Array Value) (hw : ∀ d ∈ tables_1, d.before a0 Z = true) (ws : List Jvm.Cond) (wM : Addr) (wD : Addr) (GS : Glob Z wM wD) (x0 : Int64) (pk : Int32) (h0 : Heap) (n0 : Nat) (Z0 : n0 ≤ h0.size) (O0 : Old Z n0 h0) :
    MetFree l x (head1 (Jvm.Cond.code x code maxLocals ret :: ws) room_1) (fun aa_ UU_ => aa_ = #[(.long x0), (.int pk)] ∧ Z.Warmed39 UU_.vm ∧ UU_.heap = h0) (fun _ _ _ _ _ => True) (fun _ UU_ oo_ UV_ => ∃ vv_ LL_, oo_ = .returned vv_ ∧ Q_rm0 Z wM wD x0 pk h0 n0 vv_ UV_.heap LL_ ∧ FrameEnd UU_ oo_ UV_ LL_ 0 0) := by
  refine MetFree.of_bodySF (plainFor_of_name own_pn_com_example_leasy_leasy_LeaseLengthTrustedNanosPinLaw) hisR ?_
  intro p e s m args below meth c s₁ Bd hml0 hP hK
  obtain ⟨rfl, hZ, hh⟩ := hP
  have hx := Bd.exec
  have hby := Bd.bytes
  have hml : c.maxLocals = 9 := hml0
  have hown : s.vm.findClass "com/example/leasy/leasy/LeaseLengthTrustedNanosPinLaw" = some m.cls := findClass_of_methodNamed Bd.named
  have hnm := (name_of_methodNamed Bd.named Bd.method).1
  have X0 : Stand p l e room_1 s m #[(.long x0), (.int pk)] below meth c s₁ [] 0 0 := Stand.of_body Bd
  have e0 : s₁.heap = h0 := by rw [← hh, Bd.state]; rfl
  have N0 := Fr.nil n0
  have hn0 : Z.heap.size = n0 := O0.1
  have KT0 : Keep h0 h0 [] := Keep.refl _ _
  refine own_enter (Φ := fun oo_ UV_ => ∃ vv_ LL_, oo_ = .returned vv_ ∧ Q_rm0 Z wM wD x0 pk h0 n0 vv_ UV_.heap LL_ ∧ FrameEnd s oo_ UV_ LL_ 0 0) (own_ef_rm0 m x0 pk) ?_
  refine own_by (T' := s₁) (g' := (mkF m 1 #[.val (.long x0), .second, .val (.int pk), .unset, .unset, .unset, .unset, .unset, .unset] [(.long x0)])) (fun _ kt_ => XS.lloadN X0.here hx rfl (hb hby at_0) rfl kt_) ?_
  refine own_by (T' := s₁) (g' := (mkF m 4 #[.val (.long x0), .second, .val (.int pk), .unset, .unset, .unset, .unset, .unset, .unset] [(.long (9223372036854775807 : Int64)), (.long x0)])) (fun _ kt_ => X0.ldc2Long hx hown (mvT hZ (hw _ (List.mem_of_getElem? (i := 0) rfl))) (g := (mkF m 1 #[.val (.long x0), .second, .val (.int pk), .unset, .unset, .unset, .unset, .unset, .unset] [(.long x0)])) rfl (hb hby at_1) _ kt_) ?_
  refine own_by (T' := s₁) (g' := (mkF m 5 #[.val (.long x0), .second, .val (.int pk), .unset, .unset, .unset, .unset, .unset, .unset] [(.long (x0 &&& (9223372036854775807 : Int64)))])) (fun _ kt_ => XS.land X0.here hx rfl (hb hby at_4) rfl kt_) ?_
  refine own_by (T' := s₁) (g' := (mkF m 6 #[.val (.long x0), .second, .val (.int pk), .val (.long (x0 &&& (9223372036854775807 : Int64))), .second, .unset, .unset, .unset, .unset] [])) (fun _ kt_ => XS.lstoreN X0.here hx rfl (hb hby at_5) rfl (l' := #[.val (.long x0), .second, .val (.int pk), .val (.long (x0 &&& (9223372036854775807 : Int64))), .second, .unset, .unset, .unset, .unset]) rfl kt_) ?_
  refine own_by (T' := s₁) (g' := (mkF m 7 #[.val (.long x0), .second, .val (.int pk), .val (.long (x0 &&& (9223372036854775807 : Int64))), .second, .unset, .unset, .unset, .unset] [(.int pk)])) (fun _ kt_ => XS.iloadN X0.here hx rfl (hb hby at_6) rfl kt_) ?_
  refine own_by (T' := s₁) (g' := (mkF m 8 #[.val (.long x0), .second, .val (.int pk), .val (.long (x0 &&& (9223372036854775807 : Int64))), .second, .unset, .unset, .unset, .unset] [(.int (1 : Int32)), (.int pk)])) (fun _ kt_ => XS.iconst X0.here hx rfl (hb hby at_7) kt_) ?_
  refine own_by (T' := s₁) (g' := (mkF m 9 #[.val (.long x0), .second, .val (.int pk), .val (.long (x0 &&& (9223372036854775807 : Int64))), .second, .unset, .unset, .unset, .unset] [(.int (pk &&& (1 : Int32)))])) (fun _ kt_ => XS.iand X0.here hx rfl (hb hby at_8) rfl kt_) ?_
  by_cases hc2 : (pk &&& (1 : Int32)) = (0 : Int32)
  · refine own_by (T' := s₁) (g' := (mkF m 18 #[.val (.long x0), .second, .val (.int pk), .val (.long (x0 &&& (9223372036854775807 : Int64))), .second, .unset, .unset, .unset, .unset] [])) (fun _ kt_ => XS.ifYes X0.here hx rfl (pc0 := 9) (pc' := 18) rfl (hb hby at_9) rfl (XT.i0_eq_t hc2) (by decide) (by decide) kt_) ?_
    refine own_by (T' := s₁) (g' := (mkF m 19 #[.val (.long x0), .second, .val (.int pk), .val (.long (x0 &&& (9223372036854775807 : Int64))), .second, .unset, .unset, .unset, .unset] [(.long (x0 &&& (9223372036854775807 : Int64)))])) (fun _ kt_ => XS.lloadN X0.here hx rfl (hb hby at_18) rfl kt_) ?_
    obtain ⟨_, _, ⟨T3, L3, k3, n3⟩, -, X3, ⟨Lc3, hQ3, l3, y3, z3⟩, st3⟩ := Jvm.LawKit.callS X0 hx (y := (⟨"com/example/leasy/leasy/LeaseLength", "trustedNanos", "(J)J"⟩ : MethodName)) hown (mvT hZ (hw _ (List.mem_of_getElem? (i := 1) rfl))) (mvT hZ (hw _ (List.mem_of_getElem? (i := 2) rfl))) (mvT hZ (hw _ (List.mem_of_getElem? (i := 3) rfl))) (mvT hZ (hw _ (List.mem_of_getElem? (i := 4) rfl))) (by decide) (backOf (W := 0) (rmT l Z a0 hw [] wM wD GS (x0 &&& (9223372036854775807 : Int64)) h0 n0 (by omega) O0 (own_m1 x0)) hZ (hw _ (List.mem_of_getElem? (i := 4) rfl)) (hw _ (List.mem_of_getElem? (i := 3) rfl)) (by decide) (by decide)) (g := (mkF m 19 #[.val (.long x0), .second, .val (.int pk), .val (.long (x0 &&& (9223372036854775807 : Int64))), .second, .unset, .unset, .unset, .unset] [(.long (x0 &&& (9223372036854775807 : Int64)))])) rfl (by rw [hml]; rfl) (argsL := [(.long (x0 &&& (9223372036854775807 : Int64)))]) (rest := []) (lenOf own_pd_0 rfl) rfl (by show 2 * 0 + _ ≤ _; exact Nat.le_of_eq rfl) (hb hby at_19) (fun _ _ => ⟨rfl, e0, (by decide : 0 + 0 ≤ _), (by decide : 0 + 0 ≤ _)⟩)
    dsimp only [Pt.U, Pt.locs, Pt.cells, Pt.slots] at X3 l3 y3 z3 st3 hQ3
    subst l3 y3 z3
    obtain ⟨rfl, N3q, e3⟩ := hQ3
    have N4 := Fr.app N0 N3q
    refine own_by (T' := T3) (g' := (mkF m 22 #[.val (.long x0), .second, .val (.int pk), .val (.long (x0 &&& (9223372036854775807 : Int64))), .second, .unset, .unset, .unset, .unset] [(.long (tnF (x0 &&& (9223372036854775807 : Int64))))])) st3 ?_
    refine own_by (T' := T3) (g' := (mkF m 24 #[.val (.long x0), .second, .val (.int pk), .val (.long (x0 &&& (9223372036854775807 : Int64))), .second, .val (.long (tnF (x0 &&& (9223372036854775807 : Int64)))), .second, .unset, .unset] [])) (fun _ kt_ => XS.lstore X3.here hx rfl (hb hby at_22) rfl (l' := #[.val (.long x0), .second, .val (.int pk), .val (.long (x0 &&& (9223372036854775807 : Int64))), .second, .val (.long (tnF (x0 &&& (9223372036854775807 : Int64)))), .second, .unset, .unset]) rfl kt_) ?_
    refine own_by (T' := T3) (g' := (mkF m 25 #[.val (.long x0), .second, .val (.int pk), .val (.long (x0 &&& (9223372036854775807 : Int64))), .second, .val (.long (tnF (x0 &&& (9223372036854775807 : Int64)))), .second, .unset, .unset] [(.long (x0 &&& (9223372036854775807 : Int64)))])) (fun _ kt_ => XS.lloadN X3.here hx rfl (hb hby at_24) rfl kt_) ?_
    refine own_by (T' := T3) (g' := (mkF m 28 #[.val (.long x0), .second, .val (.int pk), .val (.long (x0 &&& (9223372036854775807 : Int64))), .second, .val (.long (tnF (x0 &&& (9223372036854775807 : Int64)))), .second, .unset, .unset] [(.long (9223372036854 : Int64)), (.long (x0 &&& (9223372036854775807 : Int64)))])) (fun _ kt_ => X3.ldc2Long hx hown (mvT hZ (hw _ (List.mem_of_getElem? (i := 40) rfl))) (g := (mkF m 25 #[.val (.long x0), .second, .val (.int pk), .val (.long (x0 &&& (9223372036854775807 : Int64))), .second, .val (.long (tnF (x0 &&& (9223372036854775807 : Int64)))), .second, .unset, .unset] [(.long (x0 &&& (9223372036854775807 : Int64)))])) rfl (hb hby at_25) _ kt_) ?_
    refine own_by (T' := T3) (g' := (mkF m 29 #[.val (.long x0), .second, .val (.int pk), .val (.long (x0 &&& (9223372036854775807 : Int64))), .second, .val (.long (tnF (x0 &&& (9223372036854775807 : Int64)))), .second, .unset, .unset] [(.int (XT.cmpL (x0 &&& (9223372036854775807 : Int64)) (9223372036854 : Int64)))])) (fun _ kt_ => XT.lcmp X3.here hx rfl (hb hby at_28) rfl kt_) ?_
    by_cases hc6 : (9223372036854 : Int64) < (x0 &&& (9223372036854775807 : Int64))
    · refine own_by (T' := T3) (g' := (mkF m 46 #[.val (.long x0), .second, .val (.int pk), .val (.long (x0 &&& (9223372036854775807 : Int64))), .second, .val (.long (tnF (x0 &&& (9223372036854775807 : Int64)))), .second, .unset, .unset] [])) (fun _ kt_ => XS.ifYes X3.here hx rfl (pc0 := 29) (pc' := 46) rfl (hb hby at_29) rfl (XT.ll_gt_t hc6) (by decide) (by decide) kt_) ?_
      refine own_by (T' := T3) (g' := (mkF m 49 #[.val (.long x0), .second, .val (.int pk), .val (.long (x0 &&& (9223372036854775807 : Int64))), .second, .val (.long (tnF (x0 &&& (9223372036854775807 : Int64)))), .second, .unset, .unset] [(.long (9131138316484228049 : Int64))])) (fun _ kt_ => X3.ldc2Long hx hown (mvT hZ (hw _ (List.mem_of_getElem? (i := 44) rfl))) (g := (mkF m 46 #[.val (.long x0), .second, .val (.int pk), .val (.long (x0 &&& (9223372036854775807 : Int64))), .second, .val (.long (tnF (x0 &&& (9223372036854775807 : Int64)))), .second, .unset, .unset] [])) rfl (hb hby at_46) _ kt_) ?_
      refine own_by (T' := T3) (g' := (mkF m 51 #[.val (.long x0), .second, .val (.int pk), .val (.long (x0 &&& (9223372036854775807 : Int64))), .second, .val (.long (tnF (x0 &&& (9223372036854775807 : Int64)))), .second, .val (.long (9131138316484228049 : Int64)), .second] [])) (fun _ kt_ => XS.lstore X3.here hx rfl (hb hby at_49) rfl (l' := #[.val (.long x0), .second, .val (.int pk), .val (.long (x0 &&& (9223372036854775807 : Int64))), .second, .val (.long (tnF (x0 &&& (9223372036854775807 : Int64)))), .second, .val (.long (9131138316484228049 : Int64)), .second]) rfl kt_) ?_
      refine own_by (T' := T3) (g' := (mkF m 53 #[.val (.long x0), .second, .val (.int pk), .val (.long (x0 &&& (9223372036854775807 : Int64))), .second, .val (.long (tnF (x0 &&& (9223372036854775807 : Int64)))), .second, .val (.long (9131138316484228049 : Int64)), .second] [(.long (tnF (x0 &&& (9223372036854775807 : Int64))))])) (fun _ kt_ => XS.lload X3.here hx rfl (hb hby at_51) rfl kt_) ?_
      refine own_by (T' := T3) (g' := (mkF m 55 #[.val (.long x0), .second, .val (.int pk), .val (.long (x0 &&& (9223372036854775807 : Int64))), .second, .val (.long (tnF (x0 &&& (9223372036854775807 : Int64)))), .second, .val (.long (9131138316484228049 : Int64)), .second] [(.long (9131138316484228049 : Int64)), (.long (tnF (x0 &&& (9223372036854775807 : Int64))))])) (fun _ kt_ => XS.lload X3.here hx rfl (hb hby at_53) rfl kt_) ?_
      refine own_by (T' := T3) (g' := (mkF m 56 #[.val (.long x0), .second, .val (.int pk), .val (.long (x0 &&& (9223372036854775807 : Int64))), .second, .val (.long (tnF (x0 &&& (9223372036854775807 : Int64)))), .second, .val (.long (9131138316484228049 : Int64)), .second] [(.int (XT.cmpL (tnF (x0 &&& (9223372036854775807 : Int64))) (9131138316484228049 : Int64)))])) (fun _ kt_ => XT.lcmp X3.here hx rfl (hb hby at_55) rfl kt_) ?_
      refine own_by (T' := T3) (g' := (mkF m 59 #[.val (.long x0), .second, .val (.int pk), .val (.long (x0 &&& (9223372036854775807 : Int64))), .second, .val (.long (tnF (x0 &&& (9223372036854775807 : Int64)))), .second, .val (.long (9131138316484228049 : Int64)), .second] [])) (fun _ kt_ => XS.ifNo X3.here hx rfl (hb hby at_56) rfl (XT.ll_ne_f (own_big _ (own_m1 x0) hc6)) kt_) ?_
      refine own_by (T' := T3) (g' := (mkF m 60 #[.val (.long x0), .second, .val (.int pk), .val (.long (x0 &&& (9223372036854775807 : Int64))), .second, .val (.long (tnF (x0 &&& (9223372036854775807 : Int64)))), .second, .val (.long (9131138316484228049 : Int64)), .second] [(.int (1 : Int32))])) (fun _ kt_ => XS.iconst X3.here hx rfl (hb hby at_59) kt_) ?_
      refine own_by (T' := T3) (g' := (mkF m 64 #[.val (.long x0), .second, .val (.int pk), .val (.long (x0 &&& (9223372036854775807 : Int64))), .second, .val (.long (tnF (x0 &&& (9223372036854775807 : Int64)))), .second, .val (.long (9131138316484228049 : Int64)), .second] [(.int (1 : Int32))])) (fun _ kt_ => XS.goto X3.here hx rfl (pc0 := 60) (pc' := 64) rfl (hb hby at_60) (by decide) (by decide) kt_) ?_
      have hn8 : nar .boolean (1 : Int32) = (1 : Int32) := rfl
      obtain ⟨fs9, hr9, hrun9, hended9, hW9, hsame9⟩ := X3.leave (v := some (.int (nar .boolean (1 : Int32)))) (fun h => by rw [Bd.returns] at h; cases h)
      refine ⟨_, _, retN X3 hx (t := .boolean) Bd.returns (by simp) (hb hby at_64) hr9, hrun9, hended9, _, _, rfl, ?_, ⟨_, rfl⟩, hW9, hsame9.mono (by decide) (by decide)⟩
      show Q_rm0 Z wM wD x0 pk h0 n0 _ T3.heap _
      exact ⟨(congrArg (fun z => some (Value.int z)) hn8), N4⟩
    · refine own_by (T' := T3) (g' := (mkF m 32 #[.val (.long x0), .second, .val (.int pk), .val (.long (x0 &&& (9223372036854775807 : Int64))), .second, .val (.long (tnF (x0 &&& (9223372036854775807 : Int64)))), .second, .unset, .unset] [])) (fun _ kt_ => XS.ifNo X3.here hx rfl (hb hby at_29) rfl (XT.ll_gt_f hc6) kt_) ?_
      refine own_by (T' := T3) (g' := (mkF m 33 #[.val (.long x0), .second, .val (.int pk), .val (.long (x0 &&& (9223372036854775807 : Int64))), .second, .val (.long (tnF (x0 &&& (9223372036854775807 : Int64)))), .second, .unset, .unset] [(.long (x0 &&& (9223372036854775807 : Int64)))])) (fun _ kt_ => XS.lloadN X3.here hx rfl (hb hby at_32) rfl kt_) ?_
      refine own_by (T' := T3) (g' := (mkF m 36 #[.val (.long x0), .second, .val (.int pk), .val (.long (x0 &&& (9223372036854775807 : Int64))), .second, .val (.long (tnF (x0 &&& (9223372036854775807 : Int64)))), .second, .unset, .unset] [(.long (990000 : Int64)), (.long (x0 &&& (9223372036854775807 : Int64)))])) (fun _ kt_ => X3.ldc2Long hx hown (mvT hZ (hw _ (List.mem_of_getElem? (i := 41) rfl))) (g := (mkF m 33 #[.val (.long x0), .second, .val (.int pk), .val (.long (x0 &&& (9223372036854775807 : Int64))), .second, .val (.long (tnF (x0 &&& (9223372036854775807 : Int64)))), .second, .unset, .unset] [(.long (x0 &&& (9223372036854775807 : Int64)))])) rfl (hb hby at_33) _ kt_) ?_
      refine own_by (T' := T3) (g' := (mkF m 37 #[.val (.long x0), .second, .val (.int pk), .val (.long (x0 &&& (9223372036854775807 : Int64))), .second, .val (.long (tnF (x0 &&& (9223372036854775807 : Int64)))), .second, .unset, .unset] [(.long ((x0 &&& (9223372036854775807 : Int64)) * (990000 : Int64)))])) (fun _ kt_ => XS.lmul X3.here hx rfl (hb hby at_36) rfl kt_) ?_
      refine own_by (T' := T3) (g' := (mkF m 40 #[.val (.long x0), .second, .val (.int pk), .val (.long (x0 &&& (9223372036854775807 : Int64))), .second, .val (.long (tnF (x0 &&& (9223372036854775807 : Int64)))), .second, .unset, .unset] [(.long (2000000 : Int64)), (.long ((x0 &&& (9223372036854775807 : Int64)) * (990000 : Int64)))])) (fun _ kt_ => X3.ldc2Long hx hown (mvT hZ (hw _ (List.mem_of_getElem? (i := 42) rfl))) (g := (mkF m 37 #[.val (.long x0), .second, .val (.int pk), .val (.long (x0 &&& (9223372036854775807 : Int64))), .second, .val (.long (tnF (x0 &&& (9223372036854775807 : Int64)))), .second, .unset, .unset] [(.long ((x0 &&& (9223372036854775807 : Int64)) * (990000 : Int64)))])) rfl (hb hby at_37) _ kt_) ?_
      refine own_by (T' := T3) (g' := (mkF m 41 #[.val (.long x0), .second, .val (.int pk), .val (.long (x0 &&& (9223372036854775807 : Int64))), .second, .val (.long (tnF (x0 &&& (9223372036854775807 : Int64)))), .second, .unset, .unset] [(.long (((x0 &&& (9223372036854775807 : Int64)) * (990000 : Int64)) - (2000000 : Int64)))])) (fun _ kt_ => XS.lsub X3.here hx rfl (hb hby at_40) rfl kt_) ?_
      refine own_by (T' := T3) (g' := (mkF m 43 #[.val (.long x0), .second, .val (.int pk), .val (.long (x0 &&& (9223372036854775807 : Int64))), .second, .val (.long (tnF (x0 &&& (9223372036854775807 : Int64)))), .second, .val (.long (((x0 &&& (9223372036854775807 : Int64)) * (990000 : Int64)) - (2000000 : Int64))), .second] [])) (fun _ kt_ => XS.lstore X3.here hx rfl (hb hby at_41) rfl (l' := #[.val (.long x0), .second, .val (.int pk), .val (.long (x0 &&& (9223372036854775807 : Int64))), .second, .val (.long (tnF (x0 &&& (9223372036854775807 : Int64)))), .second, .val (.long (((x0 &&& (9223372036854775807 : Int64)) * (990000 : Int64)) - (2000000 : Int64))), .second]) rfl kt_) ?_
      refine own_by (T' := T3) (g' := (mkF m 51 #[.val (.long x0), .second, .val (.int pk), .val (.long (x0 &&& (9223372036854775807 : Int64))), .second, .val (.long (tnF (x0 &&& (9223372036854775807 : Int64)))), .second, .val (.long (((x0 &&& (9223372036854775807 : Int64)) * (990000 : Int64)) - (2000000 : Int64))), .second] [])) (fun _ kt_ => XS.goto X3.here hx rfl (pc0 := 43) (pc' := 51) rfl (hb hby at_43) (by decide) (by decide) kt_) ?_
      refine own_by (T' := T3) (g' := (mkF m 53 #[.val (.long x0), .second, .val (.int pk), .val (.long (x0 &&& (9223372036854775807 : Int64))), .second, .val (.long (tnF (x0 &&& (9223372036854775807 : Int64)))), .second, .val (.long (((x0 &&& (9223372036854775807 : Int64)) * (990000 : Int64)) - (2000000 : Int64))), .second] [(.long (tnF (x0 &&& (9223372036854775807 : Int64))))])) (fun _ kt_ => XS.lload X3.here hx rfl (hb hby at_51) rfl kt_) ?_
      refine own_by (T' := T3) (g' := (mkF m 55 #[.val (.long x0), .second, .val (.int pk), .val (.long (x0 &&& (9223372036854775807 : Int64))), .second, .val (.long (tnF (x0 &&& (9223372036854775807 : Int64)))), .second, .val (.long (((x0 &&& (9223372036854775807 : Int64)) * (990000 : Int64)) - (2000000 : Int64))), .second] [(.long (((x0 &&& (9223372036854775807 : Int64)) * (990000 : Int64)) - (2000000 : Int64))), (.long (tnF (x0 &&& (9223372036854775807 : Int64))))])) (fun _ kt_ => XS.lload X3.here hx rfl (hb hby at_53) rfl kt_) ?_
      refine own_by (T' := T3) (g' := (mkF m 56 #[.val (.long x0), .second, .val (.int pk), .val (.long (x0 &&& (9223372036854775807 : Int64))), .second, .val (.long (tnF (x0 &&& (9223372036854775807 : Int64)))), .second, .val (.long (((x0 &&& (9223372036854775807 : Int64)) * (990000 : Int64)) - (2000000 : Int64))), .second] [(.int (XT.cmpL (tnF (x0 &&& (9223372036854775807 : Int64))) (((x0 &&& (9223372036854775807 : Int64)) * (990000 : Int64)) - (2000000 : Int64))))])) (fun _ kt_ => XT.lcmp X3.here hx rfl (hb hby at_55) rfl kt_) ?_
      refine own_by (T' := T3) (g' := (mkF m 59 #[.val (.long x0), .second, .val (.int pk), .val (.long (x0 &&& (9223372036854775807 : Int64))), .second, .val (.long (tnF (x0 &&& (9223372036854775807 : Int64)))), .second, .val (.long (((x0 &&& (9223372036854775807 : Int64)) * (990000 : Int64)) - (2000000 : Int64))), .second] [])) (fun _ kt_ => XS.ifNo X3.here hx rfl (hb hby at_56) rfl (XT.ll_ne_f (own_small _ (own_m1 x0) hc6)) kt_) ?_
      refine own_by (T' := T3) (g' := (mkF m 60 #[.val (.long x0), .second, .val (.int pk), .val (.long (x0 &&& (9223372036854775807 : Int64))), .second, .val (.long (tnF (x0 &&& (9223372036854775807 : Int64)))), .second, .val (.long (((x0 &&& (9223372036854775807 : Int64)) * (990000 : Int64)) - (2000000 : Int64))), .second] [(.int (1 : Int32))])) (fun _ kt_ => XS.iconst X3.here hx rfl (hb hby at_59) kt_) ?_
      refine own_by (T' := T3) (g' := (mkF m 64 #[.val (.long x0), .second, .val (.int pk), .val (.long (x0 &&& (9223372036854775807 : Int64))), .second, .val (.long (tnF (x0 &&& (9223372036854775807 : Int64)))), .second, .val (.long (((x0 &&& (9223372036854775807 : Int64)) * (990000 : Int64)) - (2000000 : Int64))), .second] [(.int (1 : Int32))])) (fun _ kt_ => XS.goto X3.here hx rfl (pc0 := 60) (pc' := 64) rfl (hb hby at_60) (by decide) (by decide) kt_) ?_
      have hn12 : nar .boolean (1 : Int32) = (1 : Int32) := rfl
      obtain ⟨fs13, hr13, hrun13, hended13, hW13, hsame13⟩ := X3.leave (v := some (.int (nar .boolean (1 : Int32)))) (fun h => by rw [Bd.returns] at h; cases h)
      refine ⟨_, _, retN X3 hx (t := .boolean) Bd.returns (by simp) (hb hby at_64) hr13, hrun13, hended13, _, _, rfl, ?_, ⟨_, rfl⟩, hW13, hsame13.mono (by decide) (by decide)⟩
      show Q_rm0 Z wM wD x0 pk h0 n0 _ T3.heap _
      exact ⟨(congrArg (fun z => some (Value.int z)) hn12), N4⟩
  · refine own_by (T' := s₁) (g' := (mkF m 12 #[.val (.long x0), .second, .val (.int pk), .val (.long (x0 &&& (9223372036854775807 : Int64))), .second, .unset, .unset, .unset, .unset] [])) (fun _ kt_ => XS.ifNo X0.here hx rfl (hb hby at_9) rfl (XT.i0_eq_f hc2) kt_) ?_
    refine own_by (T' := s₁) (g' := (mkF m 13 #[.val (.long x0), .second, .val (.int pk), .val (.long (x0 &&& (9223372036854775807 : Int64))), .second, .unset, .unset, .unset, .unset] [(.long (x0 &&& (9223372036854775807 : Int64)))])) (fun _ kt_ => XS.lloadN X0.here hx rfl (hb hby at_12) rfl kt_) ?_
    refine own_by (T' := s₁) (g' := (mkF m 16 #[.val (.long x0), .second, .val (.int pk), .val (.long (x0 &&& (9223372036854775807 : Int64))), .second, .unset, .unset, .unset, .unset] [(.long (18446744073709 : Int64)), (.long (x0 &&& (9223372036854775807 : Int64)))])) (fun _ kt_ => X0.ldc2Long hx hown (mvT hZ (hw _ (List.mem_of_getElem? (i := 45) rfl))) (g := (mkF m 13 #[.val (.long x0), .second, .val (.int pk), .val (.long (x0 &&& (9223372036854775807 : Int64))), .second, .unset, .unset, .unset, .unset] [(.long (x0 &&& (9223372036854775807 : Int64)))])) rfl (hb hby at_13) _ kt_) ?_
    refine own_by (T' := s₁) (g' := (mkF m 17 #[.val (.long x0), .second, .val (.int pk), .val (.long (x0 &&& (9223372036854775807 : Int64))), .second, .unset, .unset, .unset, .unset] [(.long ((x0 &&& (9223372036854775807 : Int64)) - ((x0 &&& (9223372036854775807 : Int64)) / (18446744073709 : Int64)) * (18446744073709 : Int64)))])) (fun _ kt_ => XS.lrem X0.here hx rfl (hb hby at_16) rfl (by decide) kt_) ?_
    refine own_by (T' := s₁) (g' := (mkF m 18 #[.val (.long x0), .second, .val (.int pk), .val (.long ((x0 &&& (9223372036854775807 : Int64)) - ((x0 &&& (9223372036854775807 : Int64)) / (18446744073709 : Int64)) * (18446744073709 : Int64))), .second, .unset, .unset, .unset, .unset] [])) (fun _ kt_ => XS.lstoreN X0.here hx rfl (hb hby at_17) rfl (l' := #[.val (.long x0), .second, .val (.int pk), .val (.long ((x0 &&& (9223372036854775807 : Int64)) - ((x0 &&& (9223372036854775807 : Int64)) / (18446744073709 : Int64)) * (18446744073709 : Int64))), .second, .unset, .unset, .unset, .unset]) rfl kt_) ?_
    refine own_by (T' := s₁) (g' := (mkF m 19 #[.val (.long x0), .second, .val (.int pk), .val (.long ((x0 &&& (9223372036854775807 : Int64)) - ((x0 &&& (9223372036854775807 : Int64)) / (18446744073709 : Int64)) * (18446744073709 : Int64))), .second, .unset, .unset, .unset, .unset] [(.long ((x0 &&& (9223372036854775807 : Int64)) - ((x0 &&& (9223372036854775807 : Int64)) / (18446744073709 : Int64)) * (18446744073709 : Int64)))])) (fun _ kt_ => XS.lloadN X0.here hx rfl (hb hby at_18) rfl kt_) ?_
    obtain ⟨_, _, ⟨T15, L15, k15, n15⟩, -, X15, ⟨Lc15, hQ15, l15, y15, z15⟩, st15⟩ := Jvm.LawKit.callS X0 hx (y := (⟨"com/example/leasy/leasy/LeaseLength", "trustedNanos", "(J)J"⟩ : MethodName)) hown (mvT hZ (hw _ (List.mem_of_getElem? (i := 1) rfl))) (mvT hZ (hw _ (List.mem_of_getElem? (i := 2) rfl))) (mvT hZ (hw _ (List.mem_of_getElem? (i := 3) rfl))) (mvT hZ (hw _ (List.mem_of_getElem? (i := 4) rfl))) (by decide) (backOf (W := 0) (rmT l Z a0 hw [] wM wD GS ((x0 &&& (9223372036854775807 : Int64)) - ((x0 &&& (9223372036854775807 : Int64)) / (18446744073709 : Int64)) * (18446744073709 : Int64)) h0 n0 (by omega) O0 (own_m2 _ (own_m1 x0))) hZ (hw _ (List.mem_of_getElem? (i := 4) rfl)) (hw _ (List.mem_of_getElem? (i := 3) rfl)) (by decide) (by decide)) (g := (mkF m 19 #[.val (.long x0), .second, .val (.int pk), .val (.long ((x0 &&& (9223372036854775807 : Int64)) - ((x0 &&& (9223372036854775807 : Int64)) / (18446744073709 : Int64)) * (18446744073709 : Int64))), .second, .unset, .unset, .unset, .unset] [(.long ((x0 &&& (9223372036854775807 : Int64)) - ((x0 &&& (9223372036854775807 : Int64)) / (18446744073709 : Int64)) * (18446744073709 : Int64)))])) rfl (by rw [hml]; rfl) (argsL := [(.long ((x0 &&& (9223372036854775807 : Int64)) - ((x0 &&& (9223372036854775807 : Int64)) / (18446744073709 : Int64)) * (18446744073709 : Int64)))]) (rest := []) (lenOf own_pd_0 rfl) rfl (by show 2 * 0 + _ ≤ _; exact Nat.le_of_eq rfl) (hb hby at_19) (fun _ _ => ⟨rfl, e0, (by decide : 0 + 0 ≤ _), (by decide : 0 + 0 ≤ _)⟩)
    dsimp only [Pt.U, Pt.locs, Pt.cells, Pt.slots] at X15 l15 y15 z15 st15 hQ15
    subst l15 y15 z15
    obtain ⟨rfl, N15q, e15⟩ := hQ15
    have N16 := Fr.app N0 N15q
    refine own_by (T' := T15) (g' := (mkF m 22 #[.val (.long x0), .second, .val (.int pk), .val (.long ((x0 &&& (9223372036854775807 : Int64)) - ((x0 &&& (9223372036854775807 : Int64)) / (18446744073709 : Int64)) * (18446744073709 : Int64))), .second, .unset, .unset, .unset, .unset] [(.long (tnF ((x0 &&& (9223372036854775807 : Int64)) - ((x0 &&& (9223372036854775807 : Int64)) / (18446744073709 : Int64)) * (18446744073709 : Int64))))])) st15 ?_
    refine own_by (T' := T15) (g' := (mkF m 24 #[.val (.long x0), .second, .val (.int pk), .val (.long ((x0 &&& (9223372036854775807 : Int64)) - ((x0 &&& (9223372036854775807 : Int64)) / (18446744073709 : Int64)) * (18446744073709 : Int64))), .second, .val (.long (tnF ((x0 &&& (9223372036854775807 : Int64)) - ((x0 &&& (9223372036854775807 : Int64)) / (18446744073709 : Int64)) * (18446744073709 : Int64)))), .second, .unset, .unset] [])) (fun _ kt_ => XS.lstore X15.here hx rfl (hb hby at_22) rfl (l' := #[.val (.long x0), .second, .val (.int pk), .val (.long ((x0 &&& (9223372036854775807 : Int64)) - ((x0 &&& (9223372036854775807 : Int64)) / (18446744073709 : Int64)) * (18446744073709 : Int64))), .second, .val (.long (tnF ((x0 &&& (9223372036854775807 : Int64)) - ((x0 &&& (9223372036854775807 : Int64)) / (18446744073709 : Int64)) * (18446744073709 : Int64)))), .second, .unset, .unset]) rfl kt_) ?_
    refine own_by (T' := T15) (g' := (mkF m 25 #[.val (.long x0), .second, .val (.int pk), .val (.long ((x0 &&& (9223372036854775807 : Int64)) - ((x0 &&& (9223372036854775807 : Int64)) / (18446744073709 : Int64)) * (18446744073709 : Int64))), .second, .val (.long (tnF ((x0 &&& (9223372036854775807 : Int64)) - ((x0 &&& (9223372036854775807 : Int64)) / (18446744073709 : Int64)) * (18446744073709 : Int64)))), .second, .unset, .unset] [(.long ((x0 &&& (9223372036854775807 : Int64)) - ((x0 &&& (9223372036854775807 : Int64)) / (18446744073709 : Int64)) * (18446744073709 : Int64)))])) (fun _ kt_ => XS.lloadN X15.here hx rfl (hb hby at_24) rfl kt_) ?_
    refine own_by (T' := T15) (g' := (mkF m 28 #[.val (.long x0), .second, .val (.int pk), .val (.long ((x0 &&& (9223372036854775807 : Int64)) - ((x0 &&& (9223372036854775807 : Int64)) / (18446744073709 : Int64)) * (18446744073709 : Int64))), .second, .val (.long (tnF ((x0 &&& (9223372036854775807 : Int64)) - ((x0 &&& (9223372036854775807 : Int64)) / (18446744073709 : Int64)) * (18446744073709 : Int64)))), .second, .unset, .unset] [(.long (9223372036854 : Int64)), (.long ((x0 &&& (9223372036854775807 : Int64)) - ((x0 &&& (9223372036854775807 : Int64)) / (18446744073709 : Int64)) * (18446744073709 : Int64)))])) (fun _ kt_ => X15.ldc2Long hx hown (mvT hZ (hw _ (List.mem_of_getElem? (i := 40) rfl))) (g := (mkF m 25 #[.val (.long x0), .second, .val (.int pk), .val (.long ((x0 &&& (9223372036854775807 : Int64)) - ((x0 &&& (9223372036854775807 : Int64)) / (18446744073709 : Int64)) * (18446744073709 : Int64))), .second, .val (.long (tnF ((x0 &&& (9223372036854775807 : Int64)) - ((x0 &&& (9223372036854775807 : Int64)) / (18446744073709 : Int64)) * (18446744073709 : Int64)))), .second, .unset, .unset] [(.long ((x0 &&& (9223372036854775807 : Int64)) - ((x0 &&& (9223372036854775807 : Int64)) / (18446744073709 : Int64)) * (18446744073709 : Int64)))])) rfl (hb hby at_25) _ kt_) ?_
    refine own_by (T' := T15) (g' := (mkF m 29 #[.val (.long x0), .second, .val (.int pk), .val (.long ((x0 &&& (9223372036854775807 : Int64)) - ((x0 &&& (9223372036854775807 : Int64)) / (18446744073709 : Int64)) * (18446744073709 : Int64))), .second, .val (.long (tnF ((x0 &&& (9223372036854775807 : Int64)) - ((x0 &&& (9223372036854775807 : Int64)) / (18446744073709 : Int64)) * (18446744073709 : Int64)))), .second, .unset, .unset] [(.int (XT.cmpL ((x0 &&& (9223372036854775807 : Int64)) - ((x0 &&& (9223372036854775807 : Int64)) / (18446744073709 : Int64)) * (18446744073709 : Int64)) (9223372036854 : Int64)))])) (fun _ kt_ => XT.lcmp X15.here hx rfl (hb hby at_28) rfl kt_) ?_
    by_cases hc18 : (9223372036854 : Int64) < ((x0 &&& (9223372036854775807 : Int64)) - ((x0 &&& (9223372036854775807 : Int64)) / (18446744073709 : Int64)) * (18446744073709 : Int64))
    · refine own_by (T' := T15) (g' := (mkF m 46 #[.val (.long x0), .second, .val (.int pk), .val (.long ((x0 &&& (9223372036854775807 : Int64)) - ((x0 &&& (9223372036854775807 : Int64)) / (18446744073709 : Int64)) * (18446744073709 : Int64))), .second, .val (.long (tnF ((x0 &&& (9223372036854775807 : Int64)) - ((x0 &&& (9223372036854775807 : Int64)) / (18446744073709 : Int64)) * (18446744073709 : Int64)))), .second, .unset, .unset] [])) (fun _ kt_ => XS.ifYes X15.here hx rfl (pc0 := 29) (pc' := 46) rfl (hb hby at_29) rfl (XT.ll_gt_t hc18) (by decide) (by decide) kt_) ?_
      refine own_by (T' := T15) (g' := (mkF m 49 #[.val (.long x0), .second, .val (.int pk), .val (.long ((x0 &&& (9223372036854775807 : Int64)) - ((x0 &&& (9223372036854775807 : Int64)) / (18446744073709 : Int64)) * (18446744073709 : Int64))), .second, .val (.long (tnF ((x0 &&& (9223372036854775807 : Int64)) - ((x0 &&& (9223372036854775807 : Int64)) / (18446744073709 : Int64)) * (18446744073709 : Int64)))), .second, .unset, .unset] [(.long (9131138316484228049 : Int64))])) (fun _ kt_ => X15.ldc2Long hx hown (mvT hZ (hw _ (List.mem_of_getElem? (i := 44) rfl))) (g := (mkF m 46 #[.val (.long x0), .second, .val (.int pk), .val (.long ((x0 &&& (9223372036854775807 : Int64)) - ((x0 &&& (9223372036854775807 : Int64)) / (18446744073709 : Int64)) * (18446744073709 : Int64))), .second, .val (.long (tnF ((x0 &&& (9223372036854775807 : Int64)) - ((x0 &&& (9223372036854775807 : Int64)) / (18446744073709 : Int64)) * (18446744073709 : Int64)))), .second, .unset, .unset] [])) rfl (hb hby at_46) _ kt_) ?_
      refine own_by (T' := T15) (g' := (mkF m 51 #[.val (.long x0), .second, .val (.int pk), .val (.long ((x0 &&& (9223372036854775807 : Int64)) - ((x0 &&& (9223372036854775807 : Int64)) / (18446744073709 : Int64)) * (18446744073709 : Int64))), .second, .val (.long (tnF ((x0 &&& (9223372036854775807 : Int64)) - ((x0 &&& (9223372036854775807 : Int64)) / (18446744073709 : Int64)) * (18446744073709 : Int64)))), .second, .val (.long (9131138316484228049 : Int64)), .second] [])) (fun _ kt_ => XS.lstore X15.here hx rfl (hb hby at_49) rfl (l' := #[.val (.long x0), .second, .val (.int pk), .val (.long ((x0 &&& (9223372036854775807 : Int64)) - ((x0 &&& (9223372036854775807 : Int64)) / (18446744073709 : Int64)) * (18446744073709 : Int64))), .second, .val (.long (tnF ((x0 &&& (9223372036854775807 : Int64)) - ((x0 &&& (9223372036854775807 : Int64)) / (18446744073709 : Int64)) * (18446744073709 : Int64)))), .second, .val (.long (9131138316484228049 : Int64)), .second]) rfl kt_) ?_
      refine own_by (T' := T15) (g' := (mkF m 53 #[.val (.long x0), .second, .val (.int pk), .val (.long ((x0 &&& (9223372036854775807 : Int64)) - ((x0 &&& (9223372036854775807 : Int64)) / (18446744073709 : Int64)) * (18446744073709 : Int64))), .second, .val (.long (tnF ((x0 &&& (9223372036854775807 : Int64)) - ((x0 &&& (9223372036854775807 : Int64)) / (18446744073709 : Int64)) * (18446744073709 : Int64)))), .second, .val (.long (9131138316484228049 : Int64)), .second] [(.long (tnF ((x0 &&& (9223372036854775807 : Int64)) - ((x0 &&& (9223372036854775807 : Int64)) / (18446744073709 : Int64)) * (18446744073709 : Int64))))])) (fun _ kt_ => XS.lload X15.here hx rfl (hb hby at_51) rfl kt_) ?_
      refine own_by (T' := T15) (g' := (mkF m 55 #[.val (.long x0), .second, .val (.int pk), .val (.long ((x0 &&& (9223372036854775807 : Int64)) - ((x0 &&& (9223372036854775807 : Int64)) / (18446744073709 : Int64)) * (18446744073709 : Int64))), .second, .val (.long (tnF ((x0 &&& (9223372036854775807 : Int64)) - ((x0 &&& (9223372036854775807 : Int64)) / (18446744073709 : Int64)) * (18446744073709 : Int64)))), .second, .val (.long (9131138316484228049 : Int64)), .second] [(.long (9131138316484228049 : Int64)), (.long (tnF ((x0 &&& (9223372036854775807 : Int64)) - ((x0 &&& (9223372036854775807 : Int64)) / (18446744073709 : Int64)) * (18446744073709 : Int64))))])) (fun _ kt_ => XS.lload X15.here hx rfl (hb hby at_53) rfl kt_) ?_
      refine own_by (T' := T15) (g' := (mkF m 56 #[.val (.long x0), .second, .val (.int pk), .val (.long ((x0 &&& (9223372036854775807 : Int64)) - ((x0 &&& (9223372036854775807 : Int64)) / (18446744073709 : Int64)) * (18446744073709 : Int64))), .second, .val (.long (tnF ((x0 &&& (9223372036854775807 : Int64)) - ((x0 &&& (9223372036854775807 : Int64)) / (18446744073709 : Int64)) * (18446744073709 : Int64)))), .second, .val (.long (9131138316484228049 : Int64)), .second] [(.int (XT.cmpL (tnF ((x0 &&& (9223372036854775807 : Int64)) - ((x0 &&& (9223372036854775807 : Int64)) / (18446744073709 : Int64)) * (18446744073709 : Int64))) (9131138316484228049 : Int64)))])) (fun _ kt_ => XT.lcmp X15.here hx rfl (hb hby at_55) rfl kt_) ?_
      refine own_by (T' := T15) (g' := (mkF m 59 #[.val (.long x0), .second, .val (.int pk), .val (.long ((x0 &&& (9223372036854775807 : Int64)) - ((x0 &&& (9223372036854775807 : Int64)) / (18446744073709 : Int64)) * (18446744073709 : Int64))), .second, .val (.long (tnF ((x0 &&& (9223372036854775807 : Int64)) - ((x0 &&& (9223372036854775807 : Int64)) / (18446744073709 : Int64)) * (18446744073709 : Int64)))), .second, .val (.long (9131138316484228049 : Int64)), .second] [])) (fun _ kt_ => XS.ifNo X15.here hx rfl (hb hby at_56) rfl (XT.ll_ne_f (own_big _ (own_m2 _ (own_m1 x0)) hc18)) kt_) ?_
      refine own_by (T' := T15) (g' := (mkF m 60 #[.val (.long x0), .second, .val (.int pk), .val (.long ((x0 &&& (9223372036854775807 : Int64)) - ((x0 &&& (9223372036854775807 : Int64)) / (18446744073709 : Int64)) * (18446744073709 : Int64))), .second, .val (.long (tnF ((x0 &&& (9223372036854775807 : Int64)) - ((x0 &&& (9223372036854775807 : Int64)) / (18446744073709 : Int64)) * (18446744073709 : Int64)))), .second, .val (.long (9131138316484228049 : Int64)), .second] [(.int (1 : Int32))])) (fun _ kt_ => XS.iconst X15.here hx rfl (hb hby at_59) kt_) ?_
      refine own_by (T' := T15) (g' := (mkF m 64 #[.val (.long x0), .second, .val (.int pk), .val (.long ((x0 &&& (9223372036854775807 : Int64)) - ((x0 &&& (9223372036854775807 : Int64)) / (18446744073709 : Int64)) * (18446744073709 : Int64))), .second, .val (.long (tnF ((x0 &&& (9223372036854775807 : Int64)) - ((x0 &&& (9223372036854775807 : Int64)) / (18446744073709 : Int64)) * (18446744073709 : Int64)))), .second, .val (.long (9131138316484228049 : Int64)), .second] [(.int (1 : Int32))])) (fun _ kt_ => XS.goto X15.here hx rfl (pc0 := 60) (pc' := 64) rfl (hb hby at_60) (by decide) (by decide) kt_) ?_
      have hn20 : nar .boolean (1 : Int32) = (1 : Int32) := rfl
      obtain ⟨fs21, hr21, hrun21, hended21, hW21, hsame21⟩ := X15.leave (v := some (.int (nar .boolean (1 : Int32)))) (fun h => by rw [Bd.returns] at h; cases h)
      refine ⟨_, _, retN X15 hx (t := .boolean) Bd.returns (by simp) (hb hby at_64) hr21, hrun21, hended21, _, _, rfl, ?_, ⟨_, rfl⟩, hW21, hsame21.mono (by decide) (by decide)⟩
      show Q_rm0 Z wM wD x0 pk h0 n0 _ T15.heap _
      exact ⟨(congrArg (fun z => some (Value.int z)) hn20), N16⟩
    · refine own_by (T' := T15) (g' := (mkF m 32 #[.val (.long x0), .second, .val (.int pk), .val (.long ((x0 &&& (9223372036854775807 : Int64)) - ((x0 &&& (9223372036854775807 : Int64)) / (18446744073709 : Int64)) * (18446744073709 : Int64))), .second, .val (.long (tnF ((x0 &&& (9223372036854775807 : Int64)) - ((x0 &&& (9223372036854775807 : Int64)) / (18446744073709 : Int64)) * (18446744073709 : Int64)))), .second, .unset, .unset] [])) (fun _ kt_ => XS.ifNo X15.here hx rfl (hb hby at_29) rfl (XT.ll_gt_f hc18) kt_) ?_
      refine own_by (T' := T15) (g' := (mkF m 33 #[.val (.long x0), .second, .val (.int pk), .val (.long ((x0 &&& (9223372036854775807 : Int64)) - ((x0 &&& (9223372036854775807 : Int64)) / (18446744073709 : Int64)) * (18446744073709 : Int64))), .second, .val (.long (tnF ((x0 &&& (9223372036854775807 : Int64)) - ((x0 &&& (9223372036854775807 : Int64)) / (18446744073709 : Int64)) * (18446744073709 : Int64)))), .second, .unset, .unset] [(.long ((x0 &&& (9223372036854775807 : Int64)) - ((x0 &&& (9223372036854775807 : Int64)) / (18446744073709 : Int64)) * (18446744073709 : Int64)))])) (fun _ kt_ => XS.lloadN X15.here hx rfl (hb hby at_32) rfl kt_) ?_
      refine own_by (T' := T15) (g' := (mkF m 36 #[.val (.long x0), .second, .val (.int pk), .val (.long ((x0 &&& (9223372036854775807 : Int64)) - ((x0 &&& (9223372036854775807 : Int64)) / (18446744073709 : Int64)) * (18446744073709 : Int64))), .second, .val (.long (tnF ((x0 &&& (9223372036854775807 : Int64)) - ((x0 &&& (9223372036854775807 : Int64)) / (18446744073709 : Int64)) * (18446744073709 : Int64)))), .second, .unset, .unset] [(.long (990000 : Int64)), (.long ((x0 &&& (9223372036854775807 : Int64)) - ((x0 &&& (9223372036854775807 : Int64)) / (18446744073709 : Int64)) * (18446744073709 : Int64)))])) (fun _ kt_ => X15.ldc2Long hx hown (mvT hZ (hw _ (List.mem_of_getElem? (i := 41) rfl))) (g := (mkF m 33 #[.val (.long x0), .second, .val (.int pk), .val (.long ((x0 &&& (9223372036854775807 : Int64)) - ((x0 &&& (9223372036854775807 : Int64)) / (18446744073709 : Int64)) * (18446744073709 : Int64))), .second, .val (.long (tnF ((x0 &&& (9223372036854775807 : Int64)) - ((x0 &&& (9223372036854775807 : Int64)) / (18446744073709 : Int64)) * (18446744073709 : Int64)))), .second, .unset, .unset] [(.long ((x0 &&& (9223372036854775807 : Int64)) - ((x0 &&& (9223372036854775807 : Int64)) / (18446744073709 : Int64)) * (18446744073709 : Int64)))])) rfl (hb hby at_33) _ kt_) ?_
      refine own_by (T' := T15) (g' := (mkF m 37 #[.val (.long x0), .second, .val (.int pk), .val (.long ((x0 &&& (9223372036854775807 : Int64)) - ((x0 &&& (9223372036854775807 : Int64)) / (18446744073709 : Int64)) * (18446744073709 : Int64))), .second, .val (.long (tnF ((x0 &&& (9223372036854775807 : Int64)) - ((x0 &&& (9223372036854775807 : Int64)) / (18446744073709 : Int64)) * (18446744073709 : Int64)))), .second, .unset, .unset] [(.long (((x0 &&& (9223372036854775807 : Int64)) - ((x0 &&& (9223372036854775807 : Int64)) / (18446744073709 : Int64)) * (18446744073709 : Int64)) * (990000 : Int64)))])) (fun _ kt_ => XS.lmul X15.here hx rfl (hb hby at_36) rfl kt_) ?_
      refine own_by (T' := T15) (g' := (mkF m 40 #[.val (.long x0), .second, .val (.int pk), .val (.long ((x0 &&& (9223372036854775807 : Int64)) - ((x0 &&& (9223372036854775807 : Int64)) / (18446744073709 : Int64)) * (18446744073709 : Int64))), .second, .val (.long (tnF ((x0 &&& (9223372036854775807 : Int64)) - ((x0 &&& (9223372036854775807 : Int64)) / (18446744073709 : Int64)) * (18446744073709 : Int64)))), .second, .unset, .unset] [(.long (2000000 : Int64)), (.long (((x0 &&& (9223372036854775807 : Int64)) - ((x0 &&& (9223372036854775807 : Int64)) / (18446744073709 : Int64)) * (18446744073709 : Int64)) * (990000 : Int64)))])) (fun _ kt_ => X15.ldc2Long hx hown (mvT hZ (hw _ (List.mem_of_getElem? (i := 42) rfl))) (g := (mkF m 37 #[.val (.long x0), .second, .val (.int pk), .val (.long ((x0 &&& (9223372036854775807 : Int64)) - ((x0 &&& (9223372036854775807 : Int64)) / (18446744073709 : Int64)) * (18446744073709 : Int64))), .second, .val (.long (tnF ((x0 &&& (9223372036854775807 : Int64)) - ((x0 &&& (9223372036854775807 : Int64)) / (18446744073709 : Int64)) * (18446744073709 : Int64)))), .second, .unset, .unset] [(.long (((x0 &&& (9223372036854775807 : Int64)) - ((x0 &&& (9223372036854775807 : Int64)) / (18446744073709 : Int64)) * (18446744073709 : Int64)) * (990000 : Int64)))])) rfl (hb hby at_37) _ kt_) ?_
      refine own_by (T' := T15) (g' := (mkF m 41 #[.val (.long x0), .second, .val (.int pk), .val (.long ((x0 &&& (9223372036854775807 : Int64)) - ((x0 &&& (9223372036854775807 : Int64)) / (18446744073709 : Int64)) * (18446744073709 : Int64))), .second, .val (.long (tnF ((x0 &&& (9223372036854775807 : Int64)) - ((x0 &&& (9223372036854775807 : Int64)) / (18446744073709 : Int64)) * (18446744073709 : Int64)))), .second, .unset, .unset] [(.long ((((x0 &&& (9223372036854775807 : Int64)) - ((x0 &&& (9223372036854775807 : Int64)) / (18446744073709 : Int64)) * (18446744073709 : Int64)) * (990000 : Int64)) - (2000000 : Int64)))])) (fun _ kt_ => XS.lsub X15.here hx rfl (hb hby at_40) rfl kt_) ?_
      refine own_by (T' := T15) (g' := (mkF m 43 #[.val (.long x0), .second, .val (.int pk), .val (.long ((x0 &&& (9223372036854775807 : Int64)) - ((x0 &&& (9223372036854775807 : Int64)) / (18446744073709 : Int64)) * (18446744073709 : Int64))), .second, .val (.long (tnF ((x0 &&& (9223372036854775807 : Int64)) - ((x0 &&& (9223372036854775807 : Int64)) / (18446744073709 : Int64)) * (18446744073709 : Int64)))), .second, .val (.long ((((x0 &&& (9223372036854775807 : Int64)) - ((x0 &&& (9223372036854775807 : Int64)) / (18446744073709 : Int64)) * (18446744073709 : Int64)) * (990000 : Int64)) - (2000000 : Int64))), .second] [])) (fun _ kt_ => XS.lstore X15.here hx rfl (hb hby at_41) rfl (l' := #[.val (.long x0), .second, .val (.int pk), .val (.long ((x0 &&& (9223372036854775807 : Int64)) - ((x0 &&& (9223372036854775807 : Int64)) / (18446744073709 : Int64)) * (18446744073709 : Int64))), .second, .val (.long (tnF ((x0 &&& (9223372036854775807 : Int64)) - ((x0 &&& (9223372036854775807 : Int64)) / (18446744073709 : Int64)) * (18446744073709 : Int64)))), .second, .val (.long ((((x0 &&& (9223372036854775807 : Int64)) - ((x0 &&& (9223372036854775807 : Int64)) / (18446744073709 : Int64)) * (18446744073709 : Int64)) * (990000 : Int64)) - (2000000 : Int64))), .second]) rfl kt_) ?_
      refine own_by (T' := T15) (g' := (mkF m 51 #[.val (.long x0), .second, .val (.int pk), .val (.long ((x0 &&& (9223372036854775807 : Int64)) - ((x0 &&& (9223372036854775807 : Int64)) / (18446744073709 : Int64)) * (18446744073709 : Int64))), .second, .val (.long (tnF ((x0 &&& (9223372036854775807 : Int64)) - ((x0 &&& (9223372036854775807 : Int64)) / (18446744073709 : Int64)) * (18446744073709 : Int64)))), .second, .val (.long ((((x0 &&& (9223372036854775807 : Int64)) - ((x0 &&& (9223372036854775807 : Int64)) / (18446744073709 : Int64)) * (18446744073709 : Int64)) * (990000 : Int64)) - (2000000 : Int64))), .second] [])) (fun _ kt_ => XS.goto X15.here hx rfl (pc0 := 43) (pc' := 51) rfl (hb hby at_43) (by decide) (by decide) kt_) ?_
      refine own_by (T' := T15) (g' := (mkF m 53 #[.val (.long x0), .second, .val (.int pk), .val (.long ((x0 &&& (9223372036854775807 : Int64)) - ((x0 &&& (9223372036854775807 : Int64)) / (18446744073709 : Int64)) * (18446744073709 : Int64))), .second, .val (.long (tnF ((x0 &&& (9223372036854775807 : Int64)) - ((x0 &&& (9223372036854775807 : Int64)) / (18446744073709 : Int64)) * (18446744073709 : Int64)))), .second, .val (.long ((((x0 &&& (9223372036854775807 : Int64)) - ((x0 &&& (9223372036854775807 : Int64)) / (18446744073709 : Int64)) * (18446744073709 : Int64)) * (990000 : Int64)) - (2000000 : Int64))), .second] [(.long (tnF ((x0 &&& (9223372036854775807 : Int64)) - ((x0 &&& (9223372036854775807 : Int64)) / (18446744073709 : Int64)) * (18446744073709 : Int64))))])) (fun _ kt_ => XS.lload X15.here hx rfl (hb hby at_51) rfl kt_) ?_
      refine own_by (T' := T15) (g' := (mkF m 55 #[.val (.long x0), .second, .val (.int pk), .val (.long ((x0 &&& (9223372036854775807 : Int64)) - ((x0 &&& (9223372036854775807 : Int64)) / (18446744073709 : Int64)) * (18446744073709 : Int64))), .second, .val (.long (tnF ((x0 &&& (9223372036854775807 : Int64)) - ((x0 &&& (9223372036854775807 : Int64)) / (18446744073709 : Int64)) * (18446744073709 : Int64)))), .second, .val (.long ((((x0 &&& (9223372036854775807 : Int64)) - ((x0 &&& (9223372036854775807 : Int64)) / (18446744073709 : Int64)) * (18446744073709 : Int64)) * (990000 : Int64)) - (2000000 : Int64))), .second] [(.long ((((x0 &&& (9223372036854775807 : Int64)) - ((x0 &&& (9223372036854775807 : Int64)) / (18446744073709 : Int64)) * (18446744073709 : Int64)) * (990000 : Int64)) - (2000000 : Int64))), (.long (tnF ((x0 &&& (9223372036854775807 : Int64)) - ((x0 &&& (9223372036854775807 : Int64)) / (18446744073709 : Int64)) * (18446744073709 : Int64))))])) (fun _ kt_ => XS.lload X15.here hx rfl (hb hby at_53) rfl kt_) ?_
      refine own_by (T' := T15) (g' := (mkF m 56 #[.val (.long x0), .second, .val (.int pk), .val (.long ((x0 &&& (9223372036854775807 : Int64)) - ((x0 &&& (9223372036854775807 : Int64)) / (18446744073709 : Int64)) * (18446744073709 : Int64))), .second, .val (.long (tnF ((x0 &&& (9223372036854775807 : Int64)) - ((x0 &&& (9223372036854775807 : Int64)) / (18446744073709 : Int64)) * (18446744073709 : Int64)))), .second, .val (.long ((((x0 &&& (9223372036854775807 : Int64)) - ((x0 &&& (9223372036854775807 : Int64)) / (18446744073709 : Int64)) * (18446744073709 : Int64)) * (990000 : Int64)) - (2000000 : Int64))), .second] [(.int (XT.cmpL (tnF ((x0 &&& (9223372036854775807 : Int64)) - ((x0 &&& (9223372036854775807 : Int64)) / (18446744073709 : Int64)) * (18446744073709 : Int64))) ((((x0 &&& (9223372036854775807 : Int64)) - ((x0 &&& (9223372036854775807 : Int64)) / (18446744073709 : Int64)) * (18446744073709 : Int64)) * (990000 : Int64)) - (2000000 : Int64))))])) (fun _ kt_ => XT.lcmp X15.here hx rfl (hb hby at_55) rfl kt_) ?_
      refine own_by (T' := T15) (g' := (mkF m 59 #[.val (.long x0), .second, .val (.int pk), .val (.long ((x0 &&& (9223372036854775807 : Int64)) - ((x0 &&& (9223372036854775807 : Int64)) / (18446744073709 : Int64)) * (18446744073709 : Int64))), .second, .val (.long (tnF ((x0 &&& (9223372036854775807 : Int64)) - ((x0 &&& (9223372036854775807 : Int64)) / (18446744073709 : Int64)) * (18446744073709 : Int64)))), .second, .val (.long ((((x0 &&& (9223372036854775807 : Int64)) - ((x0 &&& (9223372036854775807 : Int64)) / (18446744073709 : Int64)) * (18446744073709 : Int64)) * (990000 : Int64)) - (2000000 : Int64))), .second] [])) (fun _ kt_ => XS.ifNo X15.here hx rfl (hb hby at_56) rfl (XT.ll_ne_f (own_small _ (own_m2 _ (own_m1 x0)) hc18)) kt_) ?_
      refine own_by (T' := T15) (g' := (mkF m 60 #[.val (.long x0), .second, .val (.int pk), .val (.long ((x0 &&& (9223372036854775807 : Int64)) - ((x0 &&& (9223372036854775807 : Int64)) / (18446744073709 : Int64)) * (18446744073709 : Int64))), .second, .val (.long (tnF ((x0 &&& (9223372036854775807 : Int64)) - ((x0 &&& (9223372036854775807 : Int64)) / (18446744073709 : Int64)) * (18446744073709 : Int64)))), .second, .val (.long ((((x0 &&& (9223372036854775807 : Int64)) - ((x0 &&& (9223372036854775807 : Int64)) / (18446744073709 : Int64)) * (18446744073709 : Int64)) * (990000 : Int64)) - (2000000 : Int64))), .second] [(.int (1 : Int32))])) (fun _ kt_ => XS.iconst X15.here hx rfl (hb hby at_59) kt_) ?_
      refine own_by (T' := T15) (g' := (mkF m 64 #[.val (.long x0), .second, .val (.int pk), .val (.long ((x0 &&& (9223372036854775807 : Int64)) - ((x0 &&& (9223372036854775807 : Int64)) / (18446744073709 : Int64)) * (18446744073709 : Int64))), .second, .val (.long (tnF ((x0 &&& (9223372036854775807 : Int64)) - ((x0 &&& (9223372036854775807 : Int64)) / (18446744073709 : Int64)) * (18446744073709 : Int64)))), .second, .val (.long ((((x0 &&& (9223372036854775807 : Int64)) - ((x0 &&& (9223372036854775807 : Int64)) / (18446744073709 : Int64)) * (18446744073709 : Int64)) * (990000 : Int64)) - (2000000 : Int64))), .second] [(.int (1 : Int32))])) (fun _ kt_ => XS.goto X15.here hx rfl (pc0 := 60) (pc' := 64) rfl (hb hby at_60) (by decide) (by decide) kt_) ?_
      have hn24 : nar .boolean (1 : Int32) = (1 : Int32) := rfl
      obtain ⟨fs25, hr25, hrun25, hended25, hW25, hsame25⟩ := X15.leave (v := some (.int (nar .boolean (1 : Int32)))) (fun h => by rw [Bd.returns] at h; cases h)
      refine ⟨_, _, retN X15 hx (t := .boolean) Bd.returns (by simp) (hb hby at_64) hr25, hrun25, hended25, _, _, rfl, ?_, ⟨_, rfl⟩, hW25, hsame25.mono (by decide) (by decide)⟩
      show Q_rm0 Z wM wD x0 pk h0 n0 _ T15.heap _
      exact ⟨(congrArg (fun z => some (Value.int z)) hn24), N16⟩
set_option maxRecDepth 65536 in
set_option maxHeartbeats 40000000 in
theorem comes_1 {Post : Tables → Env → Array Value → State → Outcome → State → Prop} (hpost : ∀ tb e args s v u, (limb_1_1.after args s (.returned v) u = true ∧ limb_1_2.after args s (.returned v) u = true ∧ True) → FrameEnd s (.returned v) u (Jvm.fieldLocs frame_1_writes args s ++ Jvm.arrayLocs frame_1_arrays args s ++ Jvm.staticLocs frame_1_statics s) 0 0 → Post tb e args s (.returned v) u) :
    ArmFor flags0 classFile x code maxLocals ret World_1 tables_1 room_1 Calls_1 rest_1 Pre_1 Post := by
  intro l hfl _ _ p e ha hc hk s m args below hf hA hF happ hP
  obtain ⟨hcalls, hrest, hpre⟩ := hP
  obtain ⟨-, -, -, hnamed, -, -, -, hat⟩ := (Spec.applies_iff hf).mp happ
  obtain ⟨hg, hn⟩ := and_e (Cond.before_iff.mp (show (Jvm.Cond.and given_1 narrow_1).before args s = true from hpre))
  obtain ⟨g1a, g1b⟩ := and_e hg
  obtain ⟨g2a, g2b⟩ := and_e g1b
  obtain ⟨g3a, g3b⟩ := and_e hn
  obtain ⟨g4a, g4b⟩ := and_e g3b
  obtain ⟨w0, w1, rfl⟩ : ∃ w0 w1 : Value, args = #[w0, w1] := by
    have hs : args.size = 2 := by simpa [Cond.value, given_1] using g1a
    obtain ⟨L⟩ := args
    match L, hs with
    | [w0, w1], _ => exact ⟨w0, w1, rfl⟩
  have hw := fun d (hd : d ∈ tables_1) => atoms_spec (ws := Jvm.Cond.code x code maxLocals ret :: tables_1) hat d (List.mem_cons_of_mem _ hd)
  have hfit : Fit s := fun {y c} hc i hi => by
    obtain ⟨ha, rfl⟩ := Array.getElem?_eq_some_iff.mp hc
    have q := List.all_eq_true.mp ((Array.all_eq_true_iff_forall_mem.mp hF) _ (Array.getElem_mem ha)) i (List.mem_range.mpr hi)
    simpa [Array.getElem?_eq_getElem hi] using q
  obtain ⟨i0, ei0⟩ := isL_v g2a
  obtain rfl : w0 = (.long i0) := Option.some.inj ei0
  obtain ⟨i1, ei1⟩ := is_v g2b
  obtain rfl : w1 = (.int i1) := Option.some.inj ei1
  obtain ⟨hsets, hown0⟩ := atoms_of _ (rest_1_c_eq ▸ (show rest_1_c.before _ s = true from hrest))
  obtain ⟨wM, ev_wM⟩ := exa_v (Cond.before_iff.mp (hsets _ (List.mem_of_getElem? (i := 2) rfl)))
  have sta_wM := Sta.start ev_wM (Or.inl (Cond.before_iff.mpr (Cond.before_iff.mp (hsets _ (List.mem_of_getElem? (i := 1) rfl)))))
  obtain ⟨wD, ev_wD⟩ := exa_v g3a
  have sta_wD := Sta.start ev_wD (Or.inr ⟨(hw _ (List.mem_of_getElem? (i := 3) rfl)), (hw _ (List.mem_of_getElem? (i := 18) rfl))⟩)
  have exa_wM := Exa.start ev_wM (Cond.before_iff.mp (hsets _ (List.mem_of_getElem? (i := 2) rfl)))
  have fld_wM_ordinal := own_fldI ev_wM (Cond.before_iff.mp (hsets _ (List.mem_of_getElem? (i := 4) rfl)))
  have fld_wM_scale := own_fldJ ev_wM (Cond.before_iff.mp (hsets _ (List.mem_of_getElem? (i := 5) rfl)))
  have fld_wM_maxNanos := own_fldJ ev_wM (Cond.before_iff.mp (hsets _ (List.mem_of_getElem? (i := 6) rfl)))
  have exa_wD := Exa.start ev_wD g3a
  have fld_wD_seconds := own_fldJ ev_wD g4a
  have fld_wD_nanos := own_fldI ev_wD g4b
  have GS : Glob s wM wD := ⟨sta_wM, exa_wM, fld_wM_ordinal, fld_wM_scale, fld_wM_maxNanos, sta_wD, exa_wD, fld_wD_seconds, fld_wD_nanos⟩
  obtain ⟨n, o, h1, h2, h3, _, L, rfl, ⟨rfl, N⟩, hq⟩ := rm0 l s _ hw tables_1 wM wD GS i0 i1 s.heap s.heap.size (Nat.le_refl _) (Old.start s) p e ha hc hk s m _ below hf ((Spec.applies_iff_loose hf).mp happ).1 ⟨rfl, State.Warmed39.refl s, rfl⟩ trivial
  refine ⟨n, _, h1, h2, h3, hpost _ _ _ _ _ _ ⟨Cond.after_iff.mpr rfl, Cond.after_iff.mpr (eq_i res_at (Term.int_eval (1)) rfl), trivial⟩ ⟨hq.1, hq.2.1, (hq.2.2.sift fun y hy => Or.inr (N y hy)).mono (by decide) (by decide)⟩⟩
theorem main_1_1 : Claimed_1_1 := comes_1 fun _ _ _ _ _ _ h hF => ⟨h.1, hF⟩
theorem main_1_2 : Claimed_1_2 := comes_1 fun _ _ _ _ _ _ h hF => ⟨h.2.1, hF⟩
end Jvm.Pilot.@@N@@
namespace Jvm.Pilot.@@N@@
open Jvm Jvm.ClassFile Sem Op Lib Jvm.Free Jvm.Stand Jvm.Pilot.@@N@@.Jvm.D
/-! MADE BY PROGRAM (witnessworld.py) out of the Statement's table words and the real class files: 19 classes; the members and pool entries that the words name. The judged class is class 1, her method 1. -/
namespace start1
open Jvm.ClassFile
def u (s : String) : CpInfo := .utf8 (stringToUtf16 s)
/-- a pool by its gaps: so many unusable entries, then the entry; so many at the end -/
def gap : Nat → List CpInfo → List CpInfo
  | 0, r => r
  | n + 1, r => .unusable :: gap n r
def poolList (es : List (Nat × CpInfo)) (last : Nat) : List CpInfo := es.foldr (fun e r => gap e.1 (e.2 :: r)) (gap last [])
def pool (es : List (Nat × CpInfo)) (last : Nat) : Array CpInfo := ⟨poolList es last⟩
def fileOf (pool : Array CpInfo) (this : Nat) (attrs : Array Attribute := #[]) (ms : Array MethodInfo := #[]) (fl : Nat := 33) (sup : Nat := 0) (ifs : Array Nat := #[]) (fds : Array FieldInfo := #[]) : ClassFile where
  minorVersion := 0
  majorVersion := 65
  constantPool := pool
  accessFlags := fl
  thisClass := this
  superClass := sup
  interfaces := ifs
  fields := fds
  methods := ms
  attributes := attrs
def plain (name : String) (sup : Option ClassId) : Class where
  name := name
  kind := .ordinary
  loader := none
  accessFlags := 33
  super := sup
  interfaces := #[]
  cf := none
  fields := #[]
  methods := #[]
  instanceTypes := #[]
  staticTypes := #[]
  resolved := #[]
  callSites := []
  init := .initialized
  statics := none
  mirror := none

def pool0 : Array CpInfo := pool [(5, u "<init>"), (0, u "()V"), (1, .class_ 10), (1, u "java/lang/Object")] 113

def k0m0 : Method := { name := "<init>", desc := "()V", sig := { parameters := [], returnType := none }, accessFlags := 1, code := none }
/-- java/lang/Object -/
def k0 : Class := { plain "java/lang/Object" none with
  accessFlags := 33
  interfaces := #[]
  cf := some (fileOf pool0 8 #[] #[{ accessFlags := 1, nameIndex := 5, descriptorIndex := 6, attributes := #[] }] 33 0 #[] #[])
  fields := #[]
  methods := #[k0m0]
  instanceTypes := #[]
  staticTypes := #[]
  resolved := Array.replicate 124 none
  statics := none }

def pool1 : Array CpInfo := pool [(2, .class_ 4), (1, u "java/lang/Object"), (0, u "<init>"), (0, u "()V"), (2, .long 9223372036854775807), (1, .long 18446744073709), (1, .methodref 14 15), (0, .class_ 16), (0, .nameAndType 17 18), (0, u "com/example/leasy/leasy/LeaseLength"), (0, u "trustedNanos"), (0, u "(J)J"), (0, .long 9223372036854), (1, .long 990000), (1, .long 2000000), (1, .long 9131138316484228049), (1, .class_ 28), (0, u "com/example/leasy/leasy/LeaseLengthTrustedNanosPinLaw"), (2, u "law"), (0, u "(JI)Z")] 3

def k1m0 : Method := { name := "<init>", desc := "()V", sig := { parameters := [], returnType := none }, accessFlags := 2, code := none }
def k1c1 : Code := { maxStack := 4, maxLocals := 9, code := code, exceptionTable := #[], attributes := #[] }
def k1m1 : Method := { name := "law", desc := "(JI)Z", sig := { parameters := [.long, .int], returnType := some .boolean }, accessFlags := 9, code := some k1c1 }
/-- com/example/leasy/leasy/LeaseLengthTrustedNanosPinLaw -/
def k1 : Class := { plain "com/example/leasy/leasy/LeaseLengthTrustedNanosPinLaw" (some 0) with
  accessFlags := 49
  interfaces := #[]
  cf := some (fileOf pool1 27 #[] #[{ accessFlags := 2, nameIndex := 5, descriptorIndex := 6, attributes := #[] }, { accessFlags := 9, nameIndex := 31, descriptorIndex := 32, attributes := #[] }] 49 2 #[] #[])
  fields := #[]
  methods := #[k1m0, k1m1]
  instanceTypes := #[]
  staticTypes := #[]
  resolved := Array.replicate 36 none
  statics := none }

def pool2 : Array CpInfo := pool [(2, .class_ 4), (1, u "java/lang/Object"), (0, u "<init>"), (0, u "()V"), (0, .fieldref 8 9), (0, .class_ 10), (0, .nameAndType 11 12), (0, u "java/util/concurrent/TimeUnit"), (0, u "MILLISECONDS"), (0, u "Ljava/util/concurrent/TimeUnit;"), (0, .methodref 8 14), (0, .nameAndType 15 16), (0, u "toNanos"), (0, u "(J)J"), (0, .class_ 18), (0, u "com/example/leasy/leasy/LeaseLength"), (0, .long 100), (1, .fieldref 17 22), (0, .nameAndType 23 24), (0, u "LEAST_DRIFT"), (0, u "Ljava/time/Duration;"), (0, .methodref 26 27), (0, .class_ 28), (0, .nameAndType 15 29), (0, u "java/time/Duration"), (0, u "()J"), (16, u "SHORTEST"), (6, u "LONGEST"), (28, u "LEASE_PER_DRIFT"), (0, u "I"), (4, u "trustedNanos")] 22

def k2m0 : Method := { name := "<init>", desc := "()V", sig := { parameters := [], returnType := none }, accessFlags := 2, code := none }
def k2c1 : Code := { maxStack := 6, maxLocals := 4, code := prog_2_method_2_code, exceptionTable := #[], attributes := #[] }
def k2m1 : Method := { name := "trustedNanos", desc := "(J)J", sig := { parameters := [.long], returnType := some .long }, accessFlags := 8, code := some k2c1 }
/-- com/example/leasy/leasy/LeaseLength -/
def k2 : Class := { plain "com/example/leasy/leasy/LeaseLength" (some 0) with
  accessFlags := 32
  interfaces := #[]
  cf := some (fileOf pool2 17 #[] #[{ accessFlags := 2, nameIndex := 5, descriptorIndex := 6, attributes := #[] }, { accessFlags := 8, nameIndex := 88, descriptorIndex := 16, attributes := #[] }] 32 2 #[] #[{ accessFlags := 26, nameIndex := 46, descriptorIndex := 24, attributes := #[] }, { accessFlags := 26, nameIndex := 53, descriptorIndex := 24, attributes := #[] }, { accessFlags := 26, nameIndex := 23, descriptorIndex := 24, attributes := #[] }, { accessFlags := 26, nameIndex := 82, descriptorIndex := 83, attributes := #[] }])
  fields := #[{ name := "SHORTEST", type := (.object "java/time/Duration"), accessFlags := 26, slot := 0, constantValue := 0 }, { name := "LONGEST", type := (.object "java/time/Duration"), accessFlags := 26, slot := 1, constantValue := 0 }, { name := "LEAST_DRIFT", type := (.object "java/time/Duration"), accessFlags := 26, slot := 2, constantValue := 0 }, { name := "LEASE_PER_DRIFT", type := .int, accessFlags := 26, slot := 3, constantValue := 0 }]
  methods := #[k2m0, k2m1]
  instanceTypes := #[]
  staticTypes := #[(.object "java/time/Duration"), (.object "java/time/Duration"), (.object "java/time/Duration"), .int]
  resolved := Array.replicate 111 none
  statics := some 0 }

def pool3 : Array CpInfo := pool [(1, .class_ 2), (0, u "java/lang/constant/Constable"), (0, .class_ 4), (0, u "java/lang/Object")] 6

/-- java/lang/constant/Constable -/
def k3 : Class := { plain "java/lang/constant/Constable" (some 0) with
  accessFlags := 1537
  interfaces := #[]
  cf := some (fileOf pool3 1 #[] #[] 1537 3 #[] #[])
  fields := #[]
  methods := #[]
  instanceTypes := #[]
  staticTypes := #[]
  resolved := Array.replicate 11 none
  statics := none }

def pool4 : Array CpInfo := pool [(1, .class_ 2), (0, u "java/lang/Comparable"), (0, .class_ 4), (0, u "java/lang/Object")] 7

/-- java/lang/Comparable -/
def k4 : Class := { plain "java/lang/Comparable" (some 0) with
  accessFlags := 1537
  interfaces := #[]
  cf := some (fileOf pool4 1 #[] #[] 1537 3 #[] #[])
  fields := #[]
  methods := #[]
  instanceTypes := #[]
  staticTypes := #[]
  resolved := Array.replicate 12 none
  statics := none }

def pool5 : Array CpInfo := pool [(1, .class_ 2), (0, u "java/io/Serializable"), (0, .class_ 4), (0, u "java/lang/Object")] 2

/-- java/io/Serializable -/
def k5 : Class := { plain "java/io/Serializable" (some 0) with
  accessFlags := 1537
  interfaces := #[]
  cf := some (fileOf pool5 1 #[] #[] 1537 3 #[] #[])
  fields := #[]
  methods := #[]
  instanceTypes := #[]
  staticTypes := #[]
  resolved := Array.replicate 7 none
  statics := none }

def pool6 : Array CpInfo := pool [(2, .class_ 4), (1, u "java/lang/Enum"), (0, u "name"), (0, u "Ljava/lang/String;"), (2, u "ordinal"), (0, u "I"), (1, .class_ 14), (1, u "java/lang/Object"), (4, u "hash"), (86, .class_ 108), (1, u "java/lang/Enum$EnumDesc"), (2, .class_ 112), (0, u "java/lang/constant/Constable"), (0, .class_ 114), (0, u "java/lang/Comparable"), (0, .class_ 116), (0, u "java/io/Serializable")] 87

/-- java/lang/Enum -/
def k6 : Class := { plain "java/lang/Enum" (some 0) with
  accessFlags := 1057
  interfaces := #[3, 4, 5]
  cf := some (fileOf pool6 2 #[.nestMembers #[106]] #[] 1057 12 #[111, 113, 115] #[{ accessFlags := 18, nameIndex := 5, descriptorIndex := 6, attributes := #[] }, { accessFlags := 18, nameIndex := 9, descriptorIndex := 10, attributes := #[] }, { accessFlags := 2, nameIndex := 19, descriptorIndex := 10, attributes := #[] }])
  fields := #[{ name := "name", type := (.object "java/lang/String"), accessFlags := 18, slot := 0, constantValue := 0 }, { name := "ordinal", type := .int, accessFlags := 18, slot := 1, constantValue := 0 }, { name := "hash", type := .int, accessFlags := 2, slot := 2, constantValue := 0 }]
  methods := #[]
  instanceTypes := #[(.object "java/lang/String"), .int, .int]
  staticTypes := #[]
  resolved := Array.replicate 204 none
  statics := none }

def pool7 : Array CpInfo := pool [(1, .class_ 2), (0, u "java/util/concurrent/TimeUnit"), (2, u "NANOSECONDS"), (0, u "Ljava/util/concurrent/TimeUnit;"), (2, u "MICROSECONDS"), (2, u "MILLISECONDS"), (2, u "SECONDS"), (2, u "MINUTES"), (2, u "HOURS"), (2, u "DAYS"), (2, u "$VALUES"), (0, u "[Ljava/util/concurrent/TimeUnit;"), (6, .class_ 37), (1, u "java/lang/Enum"), (6, .fieldref 1 45), (0, .nameAndType 46 47), (0, u "scale"), (0, u "J"), (2, .long 9223372036854775807), (1, .fieldref 1 53), (0, .nameAndType 54 47), (0, u "maxNanos"), (4, u "microRatio"), (2, u "maxMicros"), (4, u "milliRatio"), (0, u "I"), (2, u "maxMillis"), (4, u "secRatio"), (2, u "maxSecs"), (8, u "toNanos"), (0, u "(J)J"), (73, .class_ 165), (1, u "java/util/concurrent/TimeUnit$1"), (46, u "NANO_SCALE"), (3, u "MICRO_SCALE"), (0, u "MILLI_SCALE"), (0, u "SECOND_SCALE"), (0, u "MINUTE_SCALE"), (0, u "HOUR_SCALE"), (0, u "DAY_SCALE")] 61

def k7c0 : Code := { maxStack := 6, maxLocals := 7, code := jdk_2799_method_7_code, exceptionTable := #[], attributes := #[] }
def k7m0 : Method := { name := "toNanos", desc := "(J)J", sig := { parameters := [.long], returnType := some .long }, accessFlags := 1, code := some k7c0 }
/-- java/util/concurrent/TimeUnit -/
def k7 : Class := { plain "java/util/concurrent/TimeUnit" (some 6) with
  accessFlags := 16433
  interfaces := #[]
  cf := some (fileOf pool7 1 #[.nestMembers #[163]] #[{ accessFlags := 1, nameIndex := 88, descriptorIndex := 89, attributes := #[] }] 16433 35 #[] #[{ accessFlags := 16409, nameIndex := 5, descriptorIndex := 6, attributes := #[] }, { accessFlags := 16409, nameIndex := 9, descriptorIndex := 6, attributes := #[] }, { accessFlags := 16409, nameIndex := 12, descriptorIndex := 6, attributes := #[] }, { accessFlags := 16409, nameIndex := 15, descriptorIndex := 6, attributes := #[] }, { accessFlags := 16409, nameIndex := 18, descriptorIndex := 6, attributes := #[] }, { accessFlags := 16409, nameIndex := 21, descriptorIndex := 6, attributes := #[] }, { accessFlags := 16409, nameIndex := 24, descriptorIndex := 6, attributes := #[] }, { accessFlags := 26, nameIndex := 212, descriptorIndex := 47, attributes := #[] }, { accessFlags := 26, nameIndex := 216, descriptorIndex := 47, attributes := #[] }, { accessFlags := 26, nameIndex := 217, descriptorIndex := 47, attributes := #[] }, { accessFlags := 26, nameIndex := 218, descriptorIndex := 47, attributes := #[] }, { accessFlags := 26, nameIndex := 219, descriptorIndex := 47, attributes := #[] }, { accessFlags := 26, nameIndex := 220, descriptorIndex := 47, attributes := #[] }, { accessFlags := 26, nameIndex := 221, descriptorIndex := 47, attributes := #[] }, { accessFlags := 18, nameIndex := 46, descriptorIndex := 47, attributes := #[] }, { accessFlags := 18, nameIndex := 54, descriptorIndex := 47, attributes := #[] }, { accessFlags := 18, nameIndex := 62, descriptorIndex := 47, attributes := #[] }, { accessFlags := 18, nameIndex := 71, descriptorIndex := 47, attributes := #[] }, { accessFlags := 18, nameIndex := 79, descriptorIndex := 47, attributes := #[] }, { accessFlags := 18, nameIndex := 59, descriptorIndex := 47, attributes := #[] }, { accessFlags := 18, nameIndex := 67, descriptorIndex := 68, attributes := #[] }, { accessFlags := 18, nameIndex := 76, descriptorIndex := 68, attributes := #[] }, { accessFlags := 4122, nameIndex := 27, descriptorIndex := 28, attributes := #[] }])
  fields := #[{ name := "NANOSECONDS", type := (.object "java/util/concurrent/TimeUnit"), accessFlags := 16409, slot := 0, constantValue := 0 }, { name := "MICROSECONDS", type := (.object "java/util/concurrent/TimeUnit"), accessFlags := 16409, slot := 1, constantValue := 0 }, { name := "MILLISECONDS", type := (.object "java/util/concurrent/TimeUnit"), accessFlags := 16409, slot := 2, constantValue := 0 }, { name := "SECONDS", type := (.object "java/util/concurrent/TimeUnit"), accessFlags := 16409, slot := 3, constantValue := 0 }, { name := "MINUTES", type := (.object "java/util/concurrent/TimeUnit"), accessFlags := 16409, slot := 4, constantValue := 0 }, { name := "HOURS", type := (.object "java/util/concurrent/TimeUnit"), accessFlags := 16409, slot := 5, constantValue := 0 }, { name := "DAYS", type := (.object "java/util/concurrent/TimeUnit"), accessFlags := 16409, slot := 6, constantValue := 0 }, { name := "NANO_SCALE", type := .long, accessFlags := 26, slot := 7, constantValue := 0 }, { name := "MICRO_SCALE", type := .long, accessFlags := 26, slot := 8, constantValue := 0 }, { name := "MILLI_SCALE", type := .long, accessFlags := 26, slot := 9, constantValue := 0 }, { name := "SECOND_SCALE", type := .long, accessFlags := 26, slot := 10, constantValue := 0 }, { name := "MINUTE_SCALE", type := .long, accessFlags := 26, slot := 11, constantValue := 0 }, { name := "HOUR_SCALE", type := .long, accessFlags := 26, slot := 12, constantValue := 0 }, { name := "DAY_SCALE", type := .long, accessFlags := 26, slot := 13, constantValue := 0 }, { name := "scale", type := .long, accessFlags := 18, slot := 3, constantValue := 0 }, { name := "maxNanos", type := .long, accessFlags := 18, slot := 4, constantValue := 0 }, { name := "maxMicros", type := .long, accessFlags := 18, slot := 5, constantValue := 0 }, { name := "maxMillis", type := .long, accessFlags := 18, slot := 6, constantValue := 0 }, { name := "maxSecs", type := .long, accessFlags := 18, slot := 7, constantValue := 0 }, { name := "microRatio", type := .long, accessFlags := 18, slot := 8, constantValue := 0 }, { name := "milliRatio", type := .int, accessFlags := 18, slot := 9, constantValue := 0 }, { name := "secRatio", type := .int, accessFlags := 18, slot := 10, constantValue := 0 }, { name := "$VALUES", type := (.array (.object "java/util/concurrent/TimeUnit")), accessFlags := 4122, slot := 14, constantValue := 0 }]
  methods := #[k7m0]
  instanceTypes := #[(.object "java/lang/String"), .int, .int, .long, .long, .long, .long, .long, .long, .int, .int]
  staticTypes := #[(.object "java/util/concurrent/TimeUnit"), (.object "java/util/concurrent/TimeUnit"), (.object "java/util/concurrent/TimeUnit"), (.object "java/util/concurrent/TimeUnit"), (.object "java/util/concurrent/TimeUnit"), (.object "java/util/concurrent/TimeUnit"), (.object "java/util/concurrent/TimeUnit"), .long, .long, .long, .long, .long, .long, .long, (.array (.object "java/util/concurrent/TimeUnit"))]
  resolved := Array.replicate 283 none
  statics := some 1 }

def pool8 : Array CpInfo := pool [(1, .class_ 2), (0, u "java/time/temporal/TemporalAmount"), (0, .class_ 4), (0, u "java/lang/Object")] 11

/-- java/time/temporal/TemporalAmount -/
def k8 : Class := { plain "java/time/temporal/TemporalAmount" (some 0) with
  accessFlags := 1537
  interfaces := #[]
  cf := some (fileOf pool8 1 #[] #[] 1537 3 #[] #[])
  fields := #[]
  methods := #[]
  instanceTypes := #[]
  staticTypes := #[]
  resolved := Array.replicate 16 none
  statics := none }

def pool9 : Array CpInfo := pool [(5, .class_ 7), (1, u "java/lang/Math"), (0, u "multiplyExact"), (2, .class_ 13), (1, u "java/time/Duration"), (2, .long 1000000000), (4, u "(JJ)J"), (0, .methodref 5 23), (0, .nameAndType 24 21), (0, u "addExact"), (9, u "ZERO"), (0, u "Ljava/time/Duration;"), (13, .class_ 51), (1, u "java/time/temporal/TemporalAmount"), (27, .class_ 81), (1, u "java/time/Duration$Lazy"), (35, u "seconds"), (101, .class_ 220), (0, u "java/lang/Object"), (0, .fieldref 11 222), (0, .nameAndType 117 223), (0, u "J"), (0, .fieldref 11 225), (0, .nameAndType 226 227), (0, u "nanos"), (0, u "I"), (11, .class_ 241), (1, u "java/time/Duration$DurationUnits"), (9, u "()J"), (17, .class_ 271), (1, u "java/time/Duration$1"), (17, .methodref 5 290), (0, .nameAndType 8 21), (72, u "BI_NANOS_PER_SECOND"), (0, u "Ljava/math/BigInteger;"), (46, u "toNanos"), (73, .class_ 486), (0, u "java/lang/Comparable"), (0, .class_ 488), (0, u "java/io/Serializable"), (0, u "serialVersionUID")] 166

def k9c0 : Code := { maxStack := 4, maxLocals := 7, code := jdk_2316_method_58_code, exceptionTable := #[], attributes := #[] }
def k9m0 : Method := { name := "toNanos", desc := "()J", sig := { parameters := [], returnType := some .long }, accessFlags := 1, code := some k9c0 }
/-- java/time/Duration -/
def k9 : Class := { plain "java/time/Duration" (some 0) with
  accessFlags := 49
  interfaces := #[8, 4, 5]
  cf := some (fileOf pool9 11 #[.nestMembers #[269, 239, 79]] #[{ accessFlags := 1, nameIndex := 411, descriptorIndex := 251, attributes := #[] }] 49 219 #[49, 485, 487] #[{ accessFlags := 25, nameIndex := 34, descriptorIndex := 35, attributes := #[] }, { accessFlags := 26, nameIndex := 489, descriptorIndex := 223, attributes := #[] }, { accessFlags := 26, nameIndex := 363, descriptorIndex := 364, attributes := #[] }, { accessFlags := 18, nameIndex := 117, descriptorIndex := 223, attributes := #[] }, { accessFlags := 18, nameIndex := 226, descriptorIndex := 227, attributes := #[] }])
  fields := #[{ name := "ZERO", type := (.object "java/time/Duration"), accessFlags := 25, slot := 0, constantValue := 0 }, { name := "serialVersionUID", type := .long, accessFlags := 26, slot := 1, constantValue := 0 }, { name := "BI_NANOS_PER_SECOND", type := (.object "java/math/BigInteger"), accessFlags := 26, slot := 2, constantValue := 0 }, { name := "seconds", type := .long, accessFlags := 18, slot := 0, constantValue := 0 }, { name := "nanos", type := .int, accessFlags := 18, slot := 1, constantValue := 0 }]
  methods := #[k9m0]
  instanceTypes := #[.long, .int]
  staticTypes := #[(.object "java/time/Duration"), .long, (.object "java/math/BigInteger")]
  resolved := Array.replicate 656 none
  statics := none }

def pool10 : Array CpInfo := pool [(1, .class_ 2), (0, u "java/lang/Math"), (1, .class_ 6), (1, u "java/lang/Object"), (0, u "<init>"), (0, u "()V"), (89, .class_ 100), (1, u "java/lang/Math$RandomNumberGeneratorHolder"), (19, u "multiplyExact"), (0, u "(JJ)J"), (0, .methodref 1 123), (0, .nameAndType 124 125), (0, u "abs"), (0, u "(J)J"), (46, u "negativeZeroFloatBits"), (0, u "J"), (2, u "negativeZeroDoubleBits"), (68, u "$assertionsDisabled"), (0, u "Z"), (91, u "twoToTheDoubleScaleDown"), (0, u "D"), (4, u "twoToTheDoubleScaleUp"), (9, u "E"), (3, u "PI"), (2, u "TAU"), (2, u "DEGREES_TO_RADIANS"), (0, u "RADIANS_TO_DEGREES"), (27, u "addExact")] 66

def k10m0 : Method := { name := "<init>", desc := "()V", sig := { parameters := [], returnType := none }, accessFlags := 2, code := none }
def k10c1 : Code := { maxStack := 6, maxLocals := 6, code := jdk_29_method_25_code, exceptionTable := #[], attributes := #[] }
def k10m1 : Method := { name := "addExact", desc := "(JJ)J", sig := { parameters := [.long, .long], returnType := some .long }, accessFlags := 9, code := some k10c1 }
def k10c2 : Code := { maxStack := 4, maxLocals := 10, code := jdk_29_method_30_code, exceptionTable := #[], attributes := #[] }
def k10m2 : Method := { name := "multiplyExact", desc := "(JJ)J", sig := { parameters := [.long, .long], returnType := some .long }, accessFlags := 9, code := some k10c2 }
def k10c3 : Code := { maxStack := 4, maxLocals := 2, code := jdk_29_method_61_code, exceptionTable := #[], attributes := #[] }
def k10m3 : Method := { name := "abs", desc := "(J)J", sig := { parameters := [.long], returnType := some .long }, accessFlags := 9, code := some k10c3 }
/-- java/lang/Math -/
def k10 : Class := { plain "java/lang/Math" (some 0) with
  accessFlags := 49
  interfaces := #[]
  cf := some (fileOf pool10 1 #[.nestMembers #[98]] #[{ accessFlags := 2, nameIndex := 7, descriptorIndex := 8, attributes := #[] }, { accessFlags := 9, nameIndex := 393, descriptorIndex := 121, attributes := #[] }, { accessFlags := 9, nameIndex := 120, descriptorIndex := 121, attributes := #[] }, { accessFlags := 9, nameIndex := 124, descriptorIndex := 125, attributes := #[] }] 49 4 #[] #[{ accessFlags := 25, nameIndex := 354, descriptorIndex := 339, attributes := #[] }, { accessFlags := 25, nameIndex := 358, descriptorIndex := 339, attributes := #[] }, { accessFlags := 25, nameIndex := 361, descriptorIndex := 339, attributes := #[] }, { accessFlags := 26, nameIndex := 364, descriptorIndex := 339, attributes := #[] }, { accessFlags := 26, nameIndex := 365, descriptorIndex := 339, attributes := #[] }, { accessFlags := 26, nameIndex := 172, descriptorIndex := 173, attributes := #[] }, { accessFlags := 26, nameIndex := 176, descriptorIndex := 173, attributes := #[] }, { accessFlags := 8, nameIndex := 344, descriptorIndex := 339, attributes := #[] }, { accessFlags := 8, nameIndex := 338, descriptorIndex := 339, attributes := #[] }, { accessFlags := 4120, nameIndex := 245, descriptorIndex := 246, attributes := #[] }])
  fields := #[{ name := "E", type := .double, accessFlags := 25, slot := 0, constantValue := 0 }, { name := "PI", type := .double, accessFlags := 25, slot := 1, constantValue := 0 }, { name := "TAU", type := .double, accessFlags := 25, slot := 2, constantValue := 0 }, { name := "DEGREES_TO_RADIANS", type := .double, accessFlags := 26, slot := 3, constantValue := 0 }, { name := "RADIANS_TO_DEGREES", type := .double, accessFlags := 26, slot := 4, constantValue := 0 }, { name := "negativeZeroFloatBits", type := .long, accessFlags := 26, slot := 5, constantValue := 0 }, { name := "negativeZeroDoubleBits", type := .long, accessFlags := 26, slot := 6, constantValue := 0 }, { name := "twoToTheDoubleScaleUp", type := .double, accessFlags := 8, slot := 7, constantValue := 0 }, { name := "twoToTheDoubleScaleDown", type := .double, accessFlags := 8, slot := 8, constantValue := 0 }, { name := "$assertionsDisabled", type := .boolean, accessFlags := 4120, slot := 9, constantValue := 0 }]
  methods := #[k10m0, k10m1, k10m2, k10m3]
  instanceTypes := #[]
  staticTypes := #[.double, .double, .double, .double, .double, .long, .long, .double, .double, .boolean]
  resolved := Array.replicate 460 none
  statics := none }

def pool11 : Array CpInfo := pool [(2, .class_ 4), (1, u "java/lang/CharSequence"), (42, .class_ 48), (0, u "java/lang/CharSequence$1CodePointIterator"), (10, .class_ 60), (0, u "java/lang/CharSequence$1CharIterator"), (5, .class_ 67), (0, u "java/lang/Object")] 63

/-- java/lang/CharSequence -/
def k11 : Class := { plain "java/lang/CharSequence" (some 0) with
  accessFlags := 1537
  interfaces := #[]
  cf := some (fileOf pool11 2 #[.nestMembers #[47, 59]] #[] 1537 66 #[] #[])
  fields := #[]
  methods := #[]
  instanceTypes := #[]
  staticTypes := #[]
  resolved := Array.replicate 131 none
  statics := none }

def pool12 : Array CpInfo := pool [(1, .class_ 2), (0, u "java/lang/constant/ConstantDesc"), (0, .class_ 4), (0, u "java/lang/Object")] 32

/-- java/lang/constant/ConstantDesc -/
def k12 : Class := { plain "java/lang/constant/ConstantDesc" (some 0) with
  accessFlags := 1537
  interfaces := #[]
  cf := some (fileOf pool12 1 #[] #[] 1537 3 #[] #[])
  fields := #[]
  methods := #[]
  instanceTypes := #[]
  staticTypes := #[]
  resolved := Array.replicate 37 none
  statics := none }

def pool13 : Array CpInfo := pool [(2, .class_ 4), (1, u "java/lang/Object"), (0, u "<init>"), (0, u "()V"), (3, .class_ 12), (1, u "java/lang/String"), (0, u "value"), (0, u "[B"), (2, u "coder"), (0, u "B"), (2, u "hash"), (0, u "I"), (2, u "hashIsZero"), (0, u "Z"), (13, u "COMPACT_STRINGS"), (534, .class_ 576), (0, u "java/lang/CharSequence"), (22, u "CASE_INSENSITIVE_ORDER"), (0, u "Ljava/util/Comparator;"), (500, u "serialPersistentFields"), (0, u "[Ljava/io/ObjectStreamField;"), (0, .class_ 1104), (0, u "java/lang/String$CaseInsensitiveComparator"), (1, .class_ 1107), (0, u "java/io/Serializable"), (0, .class_ 1109), (0, u "java/lang/Comparable"), (0, .class_ 1111), (0, u "java/lang/constant/Constable"), (0, .class_ 1113), (0, u "java/lang/constant/ConstantDesc"), (2, u "serialVersionUID"), (0, u "J"), (3, u "REPL"), (0, u "C"), (2, u "LATIN1"), (1, u "UTF16")] 323

def k13m0 : Method := { name := "<init>", desc := "()V", sig := { parameters := [], returnType := none }, accessFlags := 1, code := none }
/-- java/lang/String -/
def k13 : Class := { plain "java/lang/String" (some 0) with
  accessFlags := 49
  interfaces := #[5, 4, 11, 3, 12]
  cf := some (fileOf pool13 10 #[.nestMembers #[1103]] #[{ accessFlags := 1, nameIndex := 5, descriptorIndex := 6, attributes := #[] }] 49 2 #[1106, 1108, 575, 1110, 1112] #[{ accessFlags := 18, nameIndex := 13, descriptorIndex := 14, attributes := #[] }, { accessFlags := 18, nameIndex := 17, descriptorIndex := 18, attributes := #[] }, { accessFlags := 2, nameIndex := 21, descriptorIndex := 22, attributes := #[] }, { accessFlags := 2, nameIndex := 25, descriptorIndex := 26, attributes := #[] }, { accessFlags := 26, nameIndex := 1116, descriptorIndex := 1117, attributes := #[] }, { accessFlags := 24, nameIndex := 40, descriptorIndex := 26, attributes := #[] }, { accessFlags := 26, nameIndex := 1101, descriptorIndex := 1102, attributes := #[] }, { accessFlags := 26, nameIndex := 1121, descriptorIndex := 1122, attributes := #[] }, { accessFlags := 25, nameIndex := 599, descriptorIndex := 600, attributes := #[] }, { accessFlags := 24, nameIndex := 1125, descriptorIndex := 18, attributes := #[] }, { accessFlags := 24, nameIndex := 1127, descriptorIndex := 18, attributes := #[] }])
  fields := #[{ name := "value", type := (.array .byte), accessFlags := 18, slot := 0, constantValue := 0 }, { name := "coder", type := .byte, accessFlags := 18, slot := 1, constantValue := 0 }, { name := "hash", type := .int, accessFlags := 2, slot := 2, constantValue := 0 }, { name := "hashIsZero", type := .boolean, accessFlags := 2, slot := 3, constantValue := 0 }, { name := "serialVersionUID", type := .long, accessFlags := 26, slot := 0, constantValue := 0 }, { name := "COMPACT_STRINGS", type := .boolean, accessFlags := 24, slot := 1, constantValue := 0 }, { name := "serialPersistentFields", type := (.array (.object "java/io/ObjectStreamField")), accessFlags := 26, slot := 2, constantValue := 0 }, { name := "REPL", type := .char, accessFlags := 26, slot := 3, constantValue := 0 }, { name := "CASE_INSENSITIVE_ORDER", type := (.object "java/util/Comparator"), accessFlags := 25, slot := 4, constantValue := 0 }, { name := "LATIN1", type := .byte, accessFlags := 24, slot := 5, constantValue := 0 }, { name := "UTF16", type := .byte, accessFlags := 24, slot := 6, constantValue := 0 }]
  methods := #[k13m0]
  instanceTypes := #[(.array .byte), .byte, .int, .boolean]
  staticTypes := #[.long, .boolean, (.array (.object "java/io/ObjectStreamField")), .char, (.object "java/util/Comparator"), .byte, .byte]
  resolved := Array.replicate 1451 none
  statics := none }

def pool14 : Array CpInfo := pool [(1, u "java/lang/Cloneable"), (0, .class_ 1), (0, u "java/lang/Object"), (0, .class_ 3)] 3

/-- java/lang/Cloneable -/
def k14 : Class := { plain "java/lang/Cloneable" (some 0) with
  accessFlags := 1537
  interfaces := #[]
  cf := some (fileOf pool14 2 #[] #[] 1537 4 #[] #[])
  fields := #[]
  methods := #[]
  instanceTypes := #[]
  staticTypes := #[]
  resolved := Array.replicate 8 none
  statics := none }

/-- the primitive byte -/
def k15 : Class := { plain "byte" none with kind := .primitive 'B', accessFlags := 0x411 }
/-- [B -/
def k16 : Class := { plain "[B" (some 0) with kind := .array 15 .byte, interfaces := #[14, 5], accessFlags := 1041 }

/-- the primitive int -/
def k17 : Class := { plain "int" none with kind := .primitive 'I', accessFlags := 0x411 }
/-- [I -/
def k18 : Class := { plain "[I" (some 0) with kind := .array 17 .int, interfaces := #[14, 5], accessFlags := 1041 }

def heap : Heap := #[{ cls := 2, slots := #[.null, .null, .ref 2, .int 0], vm := .statics 2 },
  { cls := 7, slots := #[.null, .null, .ref 3, .null, .null, .null, .null, .long 0, .long 0, .long 0, .long 0, .long 0, .long 0, .long 0, .null], vm := .statics 7 },
  { cls := 9, slots := #[.long 0, .int 2000000], vm := .none },
  { cls := 7, slots := #[.ref 4, .int 2, .int 0, .long 1000000, .long 9223372036854, .long 9223372036854775, .long 9223372036854775807, .long 9223372036854775, .long 1000, .int 1, .int 1000], vm := .none },
  { cls := 13, slots := #[.null, .int 0, .int 0, .int 0], vm := .none }]
def classes : Array Class := #[k0, k1, k2, k3, k4, k5, k6, k7, k8, k9, k10, k11, k12, k13, k14, k15, k16, k17, k18]
def interned : List (Array UInt16 × Addr) := []
def slotsUsed : Nat := 36
def theMethod : MethodId := ⟨1, 1⟩
def args0 : Array Value := #[.long 5, .int 0]
def aboutOver (below : List Frame) : State where
  vm := { classes := classes, interned := interned.toArray }
  heap := heap
  slotsUsed := slotsUsed
  threads := #[{ frames := .invoking theMethod args0 :: below }]
def below0 : List Frame := [.native { method := ⟨0, 0⟩, args := #[] }]
def about1 : State := aboutOver below0
def p0 : Program := .bare "" "" ""
def e0 : Env := launch0.env 0 0 0
theorem w_frames : about1.frames = Frame.invoking theMethod args0 :: below0 := rfl
set_option maxRecDepth 65536 in
theorem w_args : argsFit about1.vm theMethod args0 = true := by decide +kernel
set_option maxRecDepth 65536 in
theorem w_heap : heapFits about1 = true := by decide +kernel
set_option maxRecDepth 65536 in
theorem w_runnable : about1.curStatus? = some .runnable := by decide +kernel
set_option maxRecDepth 65536 in
theorem w_alone : about1.alone = true := by decide +kernel
set_option maxRecDepth 65536 in
theorem w_named : about1.methodNamed? x = some theMethod := by decide +kernel
set_option maxRecDepth 65536 in
theorem w_hears : about1.hears theMethod below0 = true := by decide +kernel
set_option maxRecDepth 65536 in
theorem w_ripe : about1.ripe theMethod args0 below0 = true := by decide +kernel
theorem w_running : about1.status = .running := rfl
set_option maxRecDepth 65536 in
theorem w_room : about1.hasRoom e0.platform room_1 = true :=
  launch0.hasRoom_least _ room_1 (by decide +kernel) (by decide +kernel) (by decide +kernel) (by decide +kernel) (by decide +kernel) (by decide +kernel)
theorem allAtoms_all (ts : List Jvm.Cond) (a : Array Jvm.Value) (st : Jvm.State) : (allAtoms ts).before a st = ts.all (fun c => c.before a st) := by
  induction ts with
  | nil => rfl
  | cons c t ih =>
    show (Jvm.Cond.and c (allAtoms t)).before a st = _
    rw [Jvm.Cond.before_and, ih, List.all_cons]
def words1 : List Jvm.Cond := Jvm.Cond.code x code maxLocals ret :: tables_1
/-- a 'code' word, met by the world's own term for the bytes: nothing is compared byte by byte -/
theorem code_word {y : MethodName} {bytes : ByteArray} {mx : Nat} {rt : Option FieldType} {a : Array Value} {s : State} {m : MethodId} {meth : Method} {c : Code} (h1 : s.methodNamed? y = some m) (h2 : s.vm.method? m = some meth) (h3 : meth.code = some c) (h4 : c.code = bytes)
    (h5 : (c.maxLocals == mx && c.exceptionTable.isEmpty && decide (c.maxStack ≤ mostOperands) && decide (meth.sig.returnType = rt) && !meth.locks && decide (parseMethodDescriptor y.desc = some meth.sig)) = true) : (Jvm.Cond.code y bytes mx rt).before a s = true := by
  simp only [Bool.and_eq_true, beq_iff_eq, Bool.not_eq_true', decide_eq_true_eq] at h5
  obtain ⟨⟨⟨⟨⟨g1, g2⟩, g3⟩, g4⟩, g5⟩, g6⟩ := h5
  simp [Cond.before, Cond.holds, Cond.value, h1, h2, h3, h4, g1, g2, g3, g4, g5, g6]
def isCode : Jvm.Cond → Bool
  | .code _ _ _ _ => true
  | _ => false
theorem all_split {L : List Jvm.Cond} {P : Jvm.Cond → Bool} (h1 : L.all (fun c => isCode c || P c) = true) (h2 : ∀ c ∈ L.filter isCode, P c = true) : L.all P = true := by
  refine List.all_eq_true.mpr fun c hc => ?_
  have h := List.all_eq_true.mp h1 c hc
  rcases Bool.eq_false_or_eq_true (isCode c) with hi | hi
  · exact h2 c (List.mem_filter.mpr ⟨hc, hi⟩)
  · simpa [hi] using h
set_option maxRecDepth 65536 in
theorem w_c0 : (Jvm.Cond.code x code maxLocals ret).before args0 about1 = true := code_word (m := ⟨1, 1⟩) (meth := k1m1) (c := k1c1) (by decide +kernel) rfl rfl rfl (by decide +kernel)
set_option maxRecDepth 65536 in
theorem w_c1 : (Jvm.Cond.code ({ cls := "com/example/leasy/leasy/LeaseLength", name := "trustedNanos", desc := "(J)J" } : Jvm.MethodName) prog_2_method_2_code (4 : Nat) (Option.some Jvm.ClassFile.FieldType.long)).before args0 about1 = true := code_word (m := ⟨2, 1⟩) (meth := k2m1) (c := k2c1) (by decide +kernel) rfl rfl rfl (by decide +kernel)
set_option maxRecDepth 65536 in
theorem w_c2 : (Jvm.Cond.code ({ cls := "java/util/concurrent/TimeUnit", name := "toNanos", desc := "(J)J" } : Jvm.MethodName) jdk_2799_method_7_code (7 : Nat) (Option.some Jvm.ClassFile.FieldType.long)).before args0 about1 = true := code_word (m := ⟨7, 0⟩) (meth := k7m0) (c := k7c0) (by decide +kernel) rfl rfl rfl (by decide +kernel)
set_option maxRecDepth 65536 in
theorem w_c3 : (Jvm.Cond.code ({ cls := "java/time/Duration", name := "toNanos", desc := "()J" } : Jvm.MethodName) jdk_2316_method_58_code (7 : Nat) (Option.some Jvm.ClassFile.FieldType.long)).before args0 about1 = true := code_word (m := ⟨9, 0⟩) (meth := k9m0) (c := k9c0) (by decide +kernel) rfl rfl rfl (by decide +kernel)
set_option maxRecDepth 65536 in
theorem w_c4 : (Jvm.Cond.code ({ cls := "java/lang/Math", name := "multiplyExact", desc := "(JJ)J" } : Jvm.MethodName) jdk_29_method_30_code (10 : Nat) (Option.some Jvm.ClassFile.FieldType.long)).before args0 about1 = true := code_word (m := ⟨10, 2⟩) (meth := k10m2) (c := k10c2) (by decide +kernel) rfl rfl rfl (by decide +kernel)
set_option maxRecDepth 65536 in
theorem w_c5 : (Jvm.Cond.code ({ cls := "java/lang/Math", name := "abs", desc := "(J)J" } : Jvm.MethodName) jdk_29_method_61_code (2 : Nat) (Option.some Jvm.ClassFile.FieldType.long)).before args0 about1 = true := code_word (m := ⟨10, 3⟩) (meth := k10m3) (c := k10c3) (by decide +kernel) rfl rfl rfl (by decide +kernel)
set_option maxRecDepth 65536 in
theorem w_c6 : (Jvm.Cond.code ({ cls := "java/lang/Math", name := "addExact", desc := "(JJ)J" } : Jvm.MethodName) jdk_29_method_25_code (6 : Nat) (Option.some Jvm.ClassFile.FieldType.long)).before args0 about1 = true := code_word (m := ⟨10, 1⟩) (meth := k10m1) (c := k10c1) (by decide +kernel) rfl rfl rfl (by decide +kernel)
def codes1 : List Jvm.Cond := [Jvm.Cond.code x code maxLocals ret, Jvm.Cond.code ({ cls := "com/example/leasy/leasy/LeaseLength", name := "trustedNanos", desc := "(J)J" } : Jvm.MethodName) prog_2_method_2_code (4 : Nat) (Option.some Jvm.ClassFile.FieldType.long), Jvm.Cond.code ({ cls := "java/util/concurrent/TimeUnit", name := "toNanos", desc := "(J)J" } : Jvm.MethodName) jdk_2799_method_7_code (7 : Nat) (Option.some Jvm.ClassFile.FieldType.long), Jvm.Cond.code ({ cls := "java/time/Duration", name := "toNanos", desc := "()J" } : Jvm.MethodName) jdk_2316_method_58_code (7 : Nat) (Option.some Jvm.ClassFile.FieldType.long), Jvm.Cond.code ({ cls := "java/lang/Math", name := "multiplyExact", desc := "(JJ)J" } : Jvm.MethodName) jdk_29_method_30_code (10 : Nat) (Option.some Jvm.ClassFile.FieldType.long), Jvm.Cond.code ({ cls := "java/lang/Math", name := "abs", desc := "(J)J" } : Jvm.MethodName) jdk_29_method_61_code (2 : Nat) (Option.some Jvm.ClassFile.FieldType.long), Jvm.Cond.code ({ cls := "java/lang/Math", name := "addExact", desc := "(JJ)J" } : Jvm.MethodName) jdk_29_method_25_code (6 : Nat) (Option.some Jvm.ClassFile.FieldType.long)]
set_option maxRecDepth 65536 in
theorem codes_eq : words1.filter isCode = codes1 := rfl
theorem w_codes : ∀ c ∈ words1.filter isCode, c.before args0 about1 = true := by
  rw [codes_eq]
  intro c hc
  simp only [codes1, List.mem_cons, List.not_mem_nil, or_false] at hc
  rcases hc with rfl | rfl | rfl | rfl | rfl | rfl | rfl
  · exact w_c0
  · exact w_c1
  · exact w_c2
  · exact w_c3
  · exact w_c4
  · exact w_c5
  · exact w_c6
set_option maxRecDepth 65536 in
theorem w_t1 : (words1.take 24).all (fun c => isCode c || c.before args0 about1) = true := by decide +kernel
set_option maxRecDepth 65536 in
theorem w_t2 : (words1.drop 24).all (fun c => isCode c || c.before args0 about1) = true := by decide +kernel
theorem w_tables : (allAtoms (Jvm.Cond.code x code maxLocals ret :: tables_1)).before args0 about1 = true := by
  rw [allAtoms_all]
  show words1.all (fun c => c.before args0 about1) = true
  refine all_split ?_ w_codes
  rw [← List.take_append_drop 24 words1, List.all_append, w_t1, w_t2]
  rfl
set_option maxRecDepth 65536 in
theorem w_rest : rest_1_c.before args0 about1 = true := by decide +kernel
set_option maxRecDepth 65536 in
theorem w_case : (Jvm.Cond.and given_1 narrow_1).before args0 about1 = true := by decide +kernel
theorem w_applies : (headSpec (Jvm.Cond.code x code maxLocals ret :: tables_1) room_1).applies x e0.platform about1 = true :=
  (Spec.applies_iff w_frames).mpr ⟨w_running, w_runnable, w_alone, w_named, w_hears, w_ripe, w_room, w_tables⟩
theorem atStart : AtStart classFile x code maxLocals ret World_1 tables_1 room_1 Calls_1 rest_1 Pre_1 launch0 p0 e0 about1 theMethod args0 below0 :=
  ⟨lists_1, trivial, launch0.admits_env _ _ _, launch0.least_env, fairChoices_fair.cas, fairChoices_fair.clock, w_frames, w_args, w_heap, w_applies, trivial, w_rest, w_case⟩
end start1
theorem witness_1 : WitnessClaimed_1 := ⟨start1.p0, start1.e0, start1.about1, start1.theMethod, start1.args0, start1.below0, start1.atStart⟩
end Jvm.Pilot.@@N@@
