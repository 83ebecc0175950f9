import JvmDerived
import JvmDerived.Pilot.@@N@@Statement
import JvmDerived.Pilot.@@N@@Code
set_option linter.unusedVariables false
set_option linter.unusedSimpArgs false
namespace Jvm.Pilot.@@N@@
open Jvm Jvm.ClassFile Sem Op Lib Jvm.Free Jvm.Stand Jvm.LawKit Jvm.RoadKit Bundle Jvm.Pilot.@@N@@.Jvm.D
/-! 0. the walk's goal, and how a step leads to it -/
def OGoal (p : Program) (e : Env) (below : List Frame) (Φ : Outcome → State → Prop) (T : State) (g : JFrame) : Prop :=
  ∃ s₂ o, Steps p.tables e below (T.setTop g) s₂ ∧ s₂.status = .running ∧ Ended s₂ below o ∧ Φ o s₂
theorem own_by {p : Program} {e : Env} {below : List Frame} {Φ : Outcome → State → Prop} {T T' : State} {g g' : JFrame}
    (st : ∀ t, Steps p.tables e below (T'.setTop g') t → Steps p.tables e below (T.setTop g) t) (G : OGoal p e below Φ T' g') : OGoal p e below Φ T g := by
  obtain ⟨s₂, o, h1, h2⟩ := G
  exact ⟨s₂, o, st _ h1, h2⟩
theorem own_enter {p : Program} {e : Env} {below : List Frame} {Φ : Outcome → State → Prop} {T : State} {g g' : JFrame} (q : g = g') (G : OGoal p e below Φ T g') :
    ∃ s₂ o, Steps p.tables e below (T.setTop g) s₂ ∧ s₂.status = .running ∧ Ended s₂ below o ∧ Φ o s₂ := by subst q; exact G
theorem own_kext {h h' : Heap} (E : Ext h h') : Keep h h' [] := (Keep.refl h []).ext E
theorem own_narR {ty : FieldType} {v : Value} (hty : ty.isReference = true) (h : v.isRef = true) : narrow ty v = v := by
  rcases ref_cases h with rfl | ⟨a, rfl⟩ <;> cases ty <;> first | rfl | (cases hty)
theorem own_fitR {ty : FieldType} {v : Value} (hty : ty.isReference = true) (h : v.isRef = true) : fits ty v = true := by
  rcases ref_cases h with rfl | ⟨a, rfl⟩ <;> cases ty <;> first | rfl | (cases hty)
theorem own_narC (x : Int32) : nar .char (x.toUInt32.toUInt16.toUInt32.toInt32) = x.toUInt32.toUInt16.toUInt32.toInt32 := by
  show (x.toUInt32.toUInt16.toUInt32.toInt32).toUInt32.toUInt16.toUInt32.toInt32 = _
  simp only [UInt32.toUInt32_toInt32, UInt16.toUInt16_toUInt32]
theorem own_narB (x : Int32) : nar .byte (x.toInt8.toInt32) = x.toInt8.toInt32 := by
  show (x.toInt8.toInt32).toInt8.toInt32 = _
  simp
theorem own_fldI {Z : State} {args : Array Value} {t : Term} {a : Addr} {C n d : String} {k : Int32} (ev : t.eval args Z none [] Z = some (.ref a)) (h : (Jvm.Cond.eq (.field t C n d) (.int k)).value args Z none Z [] = some true) : Fld Z Z.heap a C n d (.int k) :=
  Fld.start ((fld_at ev).symm.trans (eqv_i (Term.int_eval k) h))
theorem own_fldJ {Z : State} {args : Array Value} {t : Term} {a : Addr} {C n d : String} {k : Int64} (ev : t.eval args Z none [] Z = some (.ref a)) (h : (Jvm.Cond.eq (.field t C n d) (.long k)).value args Z none Z [] = some true) : Fld Z Z.heap a C n d (.long k) :=
  Fld.start ((fld_at ev).symm.trans (eqv_l (F := .long k) rfl h))
def Glob (Z : State) (wT : Addr) (wX : Addr) (vU : Value) (hvU : vU.isRef = true) : Prop := Sta Z Z.heap "com/example/fairlead/fairlead/core/BreakerPolicy" "DEFAULT_TRIP_TIME" "Ljava/time/Duration;" (.ref wT) ∧ Exa Z Z.heap wT "java/time/Duration" ∧ Fld Z Z.heap wT "java/time/Duration" "seconds" "J" (.long (10 : Int64)) ∧ Fld Z Z.heap wT "java/time/Duration" "nanos" "I" (.int (0 : Int32)) ∧ Sta Z Z.heap "com/example/fairlead/fairlead/core/BreakerPolicy" "DEFAULT_MAX_TRIP_TIME" "Ljava/time/Duration;" (.ref wX) ∧ Exa Z Z.heap wX "java/time/Duration" ∧ Fld Z Z.heap wX "java/time/Duration" "seconds" "J" (.long (30 : Int64)) ∧ Fld Z Z.heap wX "java/time/Duration" "nanos" "I" (.int (0 : Int32)) ∧ Sta Z Z.heap "java/time/Clock$SystemClock" "UTC" "Ljava/time/Clock$SystemClock;" vU
def absF (a : Int64) : Int64 := if a < (0 : Int64) then (-a) else a
def tripF (f n : Int32) : Int64 := if n < f then (0 : Int64) else if f < n then (if (f + (1 : Int32)) < n then (30000 : Int64) else (20000 : Int64)) else (10000 : Int64)
def expF (n f : Int32) : Int64 := if (n.toInt64 - f.toInt64) < (0 : Int64) then (0 : Int64) else if (n.toInt64 - f.toInt64) = (0 : Int64) then (10000 : Int64) else if (n.toInt64 - f.toInt64) = (1 : Int64) then (20000 : Int64) else (30000 : Int64)
theorem own_trip (f n : Int32) : tripF f n = expF n f := by
  have f1 := Int32.le_toInt f
  have f2 := Int32.toInt_lt f
  have n1 := Int32.le_toInt n
  have n2 := Int32.toInt_lt n
  have c1 := c_lsub n.toInt64 f.toInt64
  rw [c_i2l, c_i2l] at c1
  have d1 := Int64.le_toInt (n.toInt64 - f.toInt64)
  have d2 := Int64.toInt_lt (n.toInt64 - f.toInt64)
  have hd : (n.toInt64 - f.toInt64).toInt = n.toInt - f.toInt := by omega
  unfold tripF expF
  generalize n.toInt64 - f.toInt64 = D at *
  have c2 := c_iadd f (1 : Int32)
  rw [show (1 : Int32).toInt = 1 from rfl] at c2
  have e1 := Int32.le_toInt (f + (1 : Int32))
  have e2 := Int32.toInt_lt (f + (1 : Int32))
  generalize f + (1 : Int32) = F at *
  have z0 : (0 : Int64).toInt = 0 := rfl
  have z1 : (1 : Int64).toInt = 1 := rfl
  by_cases a1 : n < f
  · have a1' := Int32.lt_iff_toInt_lt.mp a1
    have g1 : D < 0 := by rw [Int64.lt_iff_toInt_lt]; omega
    rw [if_pos a1, if_pos g1]
  · have a1' : ¬ n.toInt < f.toInt := fun q => a1 (Int32.lt_iff_toInt_lt.mpr q)
    have g1 : ¬ D < 0 := by rw [Int64.lt_iff_toInt_lt]; omega
    rw [if_neg a1, if_neg g1]
    by_cases a2 : f < n
    · have a2' := Int32.lt_iff_toInt_lt.mp a2
      have g2 : ¬ D = 0 := by rw [← Int64.toInt_inj]; omega
      rw [if_pos a2, if_neg g2]
      by_cases a3 : F < n
      · have a3' := Int32.lt_iff_toInt_lt.mp a3
        have g3 : ¬ D = 1 := by rw [← Int64.toInt_inj]; omega
        rw [if_pos a3, if_neg g3]
      · have a3' : ¬ F.toInt < n.toInt := fun q => a3 (Int32.lt_iff_toInt_lt.mpr q)
        have g3 : D = 1 := by rw [← Int64.toInt_inj]; omega
        rw [if_neg a3, if_pos g3]
    · have a2' : ¬ f.toInt < n.toInt := fun q => a2 (Int32.lt_iff_toInt_lt.mpr q)
      have g2 : D = 0 := by rw [← Int64.toInt_inj]; omega
      rw [if_neg a2, if_pos g2]
theorem own_d5_0 : decode jdk_29_method_61_code 0 = .ok (.lload_n 0, 1) := by decide +kernel
theorem own_d5_1 : decode jdk_29_method_61_code 1 = .ok (.lconst 0, 1) := by decide +kernel
theorem own_d5_2 : decode jdk_29_method_61_code 2 = .ok (.lcmp, 1) := by decide +kernel
theorem own_d5_3 : decode jdk_29_method_61_code 3 = .ok (.ifCond .ge 8, 3) := by decide +kernel
theorem own_d5_6 : decode jdk_29_method_61_code 6 = .ok (.lload_n 0, 1) := by decide +kernel
theorem own_d5_7 : decode jdk_29_method_61_code 7 = .ok (.lneg, 1) := by decide +kernel
theorem own_d5_8 : decode jdk_29_method_61_code 8 = .ok (.goto 4, 3) := by decide +kernel
theorem own_d5_11 : decode jdk_29_method_61_code 11 = .ok (.lload_n 0, 1) := by decide +kernel
theorem own_d5_12 : decode jdk_29_method_61_code 12 = .ok (.lreturn, 1) := by decide +kernel
theorem own_ef_rmAbs (m : MethodId) (x0 : Int64) : entryFrame m #[(.long x0)] 2 = mkF m 0 #[.val (.long x0), .second] [] := by first | (simp [entryFrame, mkF, argsToLocals, Value.category]; done) | rfl
def Q_rmAbs (Z : State) (wT : Addr) (wX : Addr) (vU : Value) (hvU : vU.isRef = true) (a : Int64) (h0 : Heap) (n0 : Nat) (vv_ : Option Value) (hh_ : Heap) (LL_ : List Loc) : Prop := vv_ = some (.long (absF a)) ∧ Fr n0 LL_ ∧ hh_ = h0
set_option maxRecDepth 65536 in
set_option maxHeartbeats 40000000 in
theorem rmAbs (l : Launch) (Z : State) (a0 : Array Value) (hw : ∀ d ∈ tables_1, d.before a0 Z = true) (ws : List Jvm.Cond) (wT : Addr) (wX : Addr) (vU : Value) (hvU : vU.isRef = true) (GS : Glob Z wT wX vU hvU) (a : Int64) (h0 : Heap) (n0 : Nat) (Z0 : n0 ≤ h0.size) (O0 : Old Z n0 h0) :
    MetFree l (⟨"java/lang/Math", "abs", "(J)J"⟩ : MethodName) (head1 (Jvm.Cond.code (⟨"java/lang/Math", "abs", "(J)J"⟩ : MethodName) jdk_29_method_61_code 2 (some .long) :: ws) ({ frames := 0, cells := 0, slots := 0, locals := 0 } : Room)) (fun aa_ UU_ => aa_ = #[(.long a)] ∧ Z.Warmed39 UU_.vm ∧ UU_.heap = h0) (fun _ _ _ _ _ => True) (fun _ UU_ oo_ UV_ => ∃ vv_ LL_, oo_ = .returned vv_ ∧ Q_rmAbs Z wT wX vU hvU a h0 n0 vv_ UV_.heap LL_ ∧ FrameEnd UU_ oo_ UV_ LL_ ({ frames := 0, cells := 0, slots := 0, locals := 0 } : Room).cells ({ frames := 0, cells := 0, slots := 0, locals := 0 } : Room).slots) := by
  refine MetFree.of_bodySF (Jvm.Free.JP.mathPlain rfl (by decide +kernel)) hisR ?_
  intro p e s m args below meth c s₁ Bd hml0 hP hK
  obtain ⟨rfl, hZ, hh⟩ := hP
  have hx := Bd.exec
  have hby := Bd.bytes
  have hml : c.maxLocals = 2 := hml0
  have hown : s.vm.findClass "java/lang/Math" = some m.cls := findClass_of_methodNamed Bd.named
  have hnm := (name_of_methodNamed Bd.named Bd.method).1
  have X0 : Stand p l e ({ frames := 0, cells := 0, slots := 0, locals := 0 } : Room) s m #[(.long a)] below meth c s₁ [] 0 0 := Stand.of_body Bd
  have e0 : s₁.heap = h0 := by rw [← hh, Bd.state]; rfl
  have N0 := Fr.nil n0
  have hn0 : Z.heap.size = n0 := O0.1
  have KT0 : Keep h0 h0 [] := Keep.refl _ _
  refine own_enter (Φ := fun oo_ UV_ => ∃ vv_ LL_, oo_ = .returned vv_ ∧ Q_rmAbs Z wT wX vU hvU a h0 n0 vv_ UV_.heap LL_ ∧ FrameEnd s oo_ UV_ LL_ ({ frames := 0, cells := 0, slots := 0, locals := 0 } : Room).cells ({ frames := 0, cells := 0, slots := 0, locals := 0 } : Room).slots) (own_ef_rmAbs m a) ?_
  refine own_by (T' := s₁) (g' := (mkF m 1 #[.val (.long a), .second] [(.long a)])) (fun _ kt_ => XS.lloadN X0.here hx rfl (hb hby own_d5_0) rfl kt_) ?_
  refine own_by (T' := s₁) (g' := (mkF m 2 #[.val (.long a), .second] [(.long (0 : Int64)), (.long a)])) (fun _ kt_ => XS.lconst X0.here hx rfl (hb hby own_d5_1) kt_) ?_
  refine own_by (T' := s₁) (g' := (mkF m 3 #[.val (.long a), .second] [(.int (XT.cmpL a (0 : Int64)))])) (fun _ kt_ => XT.lcmp X0.here hx rfl (hb hby own_d5_2) rfl kt_) ?_
  by_cases hc1 : a < (0 : Int64)
  · refine own_by (T' := s₁) (g' := (mkF m 6 #[.val (.long a), .second] [])) (fun _ kt_ => XS.ifNo X0.here hx rfl (hb hby own_d5_3) rfl (XT.ll_ge_f hc1) kt_) ?_
    refine own_by (T' := s₁) (g' := (mkF m 7 #[.val (.long a), .second] [(.long a)])) (fun _ kt_ => XS.lloadN X0.here hx rfl (hb hby own_d5_6) rfl kt_) ?_
    refine own_by (T' := s₁) (g' := (mkF m 8 #[.val (.long a), .second] [(.long (-a))])) (fun _ kt_ => XS.lneg X0.here hx rfl (hb hby own_d5_7) rfl kt_) ?_
    refine own_by (T' := s₁) (g' := (mkF m 12 #[.val (.long a), .second] [(.long (-a))])) (fun _ kt_ => XS.goto X0.here hx rfl (pc0 := 8) (pc' := 12) rfl (hb hby own_d5_8) (by decide) (by decide) kt_) ?_
    have hr2 : (-a) = (absF a) := by simp [absF, hc1]
    obtain ⟨fs3, hr3, hrun3, hended3, hW3, hsame3⟩ := X0.leave (v := some (.long (-a))) (fun h => by rw [Bd.returns] at h; cases h)
    refine ⟨_, _, retOut X0 hx (t := .long) Bd.returns rfl (Or.inr (Or.inl ⟨rfl, rfl, _, rfl⟩)) (hb hby own_d5_12) hr3, hrun3, hended3, _, _, rfl, ?_, ⟨_, rfl⟩, hW3, hsame3.mono (by decide) (by decide)⟩
    show Q_rmAbs Z wT wX vU hvU a h0 n0 _ s₁.heap _
    exact ⟨(congrArg (fun z => some (Value.long z)) hr2), N0, e0⟩
  · refine own_by (T' := s₁) (g' := (mkF m 11 #[.val (.long a), .second] [])) (fun _ kt_ => XS.ifYes X0.here hx rfl (pc0 := 3) (pc' := 11) rfl (hb hby own_d5_3) rfl (XT.ll_ge_t hc1) (by decide) (by decide) kt_) ?_
    refine own_by (T' := s₁) (g' := (mkF m 12 #[.val (.long a), .second] [(.long a)])) (fun _ kt_ => XS.lloadN X0.here hx rfl (hb hby own_d5_11) rfl kt_) ?_
    have hr4 : a = (absF a) := by simp [absF, hc1]
    obtain ⟨fs5, hr5, hrun5, hended5, hW5, hsame5⟩ := X0.leave (v := some (.long a)) (fun h => by rw [Bd.returns] at h; cases h)
    refine ⟨_, _, retOut X0 hx (t := .long) Bd.returns rfl (Or.inr (Or.inl ⟨rfl, rfl, _, rfl⟩)) (hb hby own_d5_12) hr5, hrun5, hended5, _, _, rfl, ?_, ⟨_, rfl⟩, hW5, hsame5.mono (by decide) (by decide)⟩
    show Q_rmAbs Z wT wX vU hvU a h0 n0 _ s₁.heap _
    exact ⟨(congrArg (fun z => some (Value.long z)) hr4), N0, e0⟩
theorem own_pd_0 : parseMethodDescriptor "(J)J" = some ⟨[.long], some .long⟩ := by decide +kernel
theorem own_d4_0 : decode jdk_29_method_30_code 0 = .ok (.lload_n 0, 1) := by decide +kernel
theorem own_d4_1 : decode jdk_29_method_30_code 1 = .ok (.lload_n 2, 1) := by decide +kernel
theorem own_d4_2 : decode jdk_29_method_30_code 2 = .ok (.lmul, 1) := by decide +kernel
theorem own_d4_3 : decode jdk_29_method_30_code 3 = .ok (.lstore 4, 2) := by decide +kernel
theorem own_d4_5 : decode jdk_29_method_30_code 5 = .ok (.lload_n 0, 1) := by decide +kernel
theorem own_d4_6 : decode jdk_29_method_30_code 6 = .ok (.invokestatic 122, 3) := by decide +kernel
theorem own_d4_9 : decode jdk_29_method_30_code 9 = .ok (.lstore 6, 2) := by decide +kernel
theorem own_d4_11 : decode jdk_29_method_30_code 11 = .ok (.lload_n 2, 1) := by decide +kernel
theorem own_d4_12 : decode jdk_29_method_30_code 12 = .ok (.invokestatic 122, 3) := by decide +kernel
theorem own_d4_15 : decode jdk_29_method_30_code 15 = .ok (.lstore 8, 2) := by decide +kernel
theorem own_d4_17 : decode jdk_29_method_30_code 17 = .ok (.lload 6, 2) := by decide +kernel
theorem own_d4_19 : decode jdk_29_method_30_code 19 = .ok (.lload 8, 2) := by decide +kernel
theorem own_d4_21 : decode jdk_29_method_30_code 21 = .ok (.lor, 1) := by decide +kernel
theorem own_d4_22 : decode jdk_29_method_30_code 22 = .ok (.bipush 31, 2) := by decide +kernel
theorem own_d4_24 : decode jdk_29_method_30_code 24 = .ok (.lushr, 1) := by decide +kernel
theorem own_d4_25 : decode jdk_29_method_30_code 25 = .ok (.lconst 0, 1) := by decide +kernel
theorem own_d4_26 : decode jdk_29_method_30_code 26 = .ok (.lcmp, 1) := by decide +kernel
theorem own_d4_27 : decode jdk_29_method_30_code 27 = .ok (.ifCond .eq 44, 3) := by decide +kernel
theorem own_d4_71 : decode jdk_29_method_30_code 71 = .ok (.lload 4, 2) := by decide +kernel
theorem own_d4_73 : decode jdk_29_method_30_code 73 = .ok (.lreturn, 1) := by decide +kernel
theorem own_ef_rmMul (m : MethodId) (x0 : Int64) (x1 : Int64) : entryFrame m #[(.long x0), (.long x1)] 10 = mkF m 0 #[.val (.long x0), .second, .val (.long x1), .second, .unset, .unset, .unset, .unset, .unset, .unset] [] := by first | (simp [entryFrame, mkF, argsToLocals, Value.category]; done) | rfl
def Q_rmMul (Z : State) (wT : Addr) (wX : Addr) (vU : Value) (hvU : vU.isRef = true) (x : Int64) (y : Int64) (h0 : Heap) (n0 : Nat) (vv_ : Option Value) (hh_ : Heap) (LL_ : List Loc) : Prop := vv_ = some (.long (x * y)) ∧ Fr n0 LL_ ∧ hh_ = h0
set_option maxRecDepth 65536 in
set_option maxHeartbeats 40000000 in
theorem rmMul (l : Launch) (Z : State) (a0 : Array Value) (hw : ∀ d ∈ tables_1, d.before a0 Z = true) (ws : List Jvm.Cond) (wT : Addr) (wX : Addr) (vU : Value) (hvU : vU.isRef = true) (GS : Glob Z wT wX vU hvU) (x : Int64) (y : Int64) (h0 : Heap) (n0 : Nat) (Z0 : n0 ≤ h0.size) (O0 : Old Z n0 h0) (hz : ((((absF x) ||| (absF y)).toUInt64 >>> ((31 : Int32) &&& 0x3f).toInt64.toUInt64).toInt64) = (0 : Int64)) :
    MetFree l (⟨"java/lang/Math", "multiplyExact", "(JJ)J"⟩ : MethodName) (head1 (Jvm.Cond.code (⟨"java/lang/Math", "multiplyExact", "(JJ)J"⟩ : MethodName) jdk_29_method_30_code 10 (some .long) :: ws) ({ frames := 1, cells := 0, slots := 0, locals := 13 } : Room)) (fun aa_ UU_ => aa_ = #[(.long x), (.long y)] ∧ Z.Warmed39 UU_.vm ∧ UU_.heap = h0) (fun _ _ _ _ _ => True) (fun _ UU_ oo_ UV_ => ∃ vv_ LL_, oo_ = .returned vv_ ∧ Q_rmMul Z wT wX vU hvU x y h0 n0 vv_ UV_.heap LL_ ∧ FrameEnd UU_ oo_ UV_ LL_ ({ frames := 1, cells := 0, slots := 0, locals := 13 } : Room).cells ({ frames := 1, cells := 0, slots := 0, locals := 13 } : Room).slots) := by
  refine MetFree.of_bodySF (Jvm.Free.JP.mathPlain rfl (by decide +kernel)) hisR ?_
  intro p e s m args below meth c s₁ Bd hml0 hP hK
  obtain ⟨rfl, hZ, hh⟩ := hP
  have hx := Bd.exec
  have hby := Bd.bytes
  have hml : c.maxLocals = 10 := hml0
  have hown : s.vm.findClass "java/lang/Math" = some m.cls := findClass_of_methodNamed Bd.named
  have hnm := (name_of_methodNamed Bd.named Bd.method).1
  have X0 : Stand p l e ({ frames := 1, cells := 0, slots := 0, locals := 13 } : Room) s m #[(.long x), (.long y)] below meth c s₁ [] 0 0 := Stand.of_body Bd
  have e0 : s₁.heap = h0 := by rw [← hh, Bd.state]; rfl
  have N0 := Fr.nil n0
  have hn0 : Z.heap.size = n0 := O0.1
  have KT0 : Keep h0 h0 [] := Keep.refl _ _
  refine own_enter (Φ := fun oo_ UV_ => ∃ vv_ LL_, oo_ = .returned vv_ ∧ Q_rmMul Z wT wX vU hvU x y h0 n0 vv_ UV_.heap LL_ ∧ FrameEnd s oo_ UV_ LL_ ({ frames := 1, cells := 0, slots := 0, locals := 13 } : Room).cells ({ frames := 1, cells := 0, slots := 0, locals := 13 } : Room).slots) (own_ef_rmMul m x y) ?_
  refine own_by (T' := s₁) (g' := (mkF m 1 #[.val (.long x), .second, .val (.long y), .second, .unset, .unset, .unset, .unset, .unset, .unset] [(.long x)])) (fun _ kt_ => XS.lloadN X0.here hx rfl (hb hby own_d4_0) rfl kt_) ?_
  refine own_by (T' := s₁) (g' := (mkF m 2 #[.val (.long x), .second, .val (.long y), .second, .unset, .unset, .unset, .unset, .unset, .unset] [(.long y), (.long x)])) (fun _ kt_ => XS.lloadN X0.here hx rfl (hb hby own_d4_1) rfl kt_) ?_
  refine own_by (T' := s₁) (g' := (mkF m 3 #[.val (.long x), .second, .val (.long y), .second, .unset, .unset, .unset, .unset, .unset, .unset] [(.long (x * y))])) (fun _ kt_ => XS.lmul X0.here hx rfl (hb hby own_d4_2) rfl kt_) ?_
  refine own_by (T' := s₁) (g' := (mkF m 5 #[.val (.long x), .second, .val (.long y), .second, .val (.long (x * y)), .second, .unset, .unset, .unset, .unset] [])) (fun _ kt_ => XS.lstore X0.here hx rfl (hb hby own_d4_3) rfl (l' := #[.val (.long x), .second, .val (.long y), .second, .val (.long (x * y)), .second, .unset, .unset, .unset, .unset]) rfl kt_) ?_
  refine own_by (T' := s₁) (g' := (mkF m 6 #[.val (.long x), .second, .val (.long y), .second, .val (.long (x * y)), .second, .unset, .unset, .unset, .unset] [(.long x)])) (fun _ kt_ => XS.lloadN X0.here hx rfl (hb hby own_d4_5) rfl kt_) ?_
  obtain ⟨_, _, ⟨T1, L1, k1, n1⟩, -, X1, ⟨Lc1, hQ1, l1, y1, z1⟩, st1⟩ := Jvm.LawKit.callS X0 hx (y := (⟨"java/lang/Math", "abs", "(J)J"⟩ : MethodName)) hown (mvT hZ (hw _ (List.mem_of_getElem? (i := 25) rfl))) (mvT hZ (hw _ (List.mem_of_getElem? (i := 26) rfl))) (mvT hZ (hw _ (List.mem_of_getElem? (i := 20) rfl))) (mvT hZ (hw _ (List.mem_of_getElem? (i := 27) rfl))) (by decide) (backOf (W := 0) (rmAbs l Z a0 hw [] wT wX vU hvU GS x h0 n0 (by omega) O0 ) hZ (hw _ (List.mem_of_getElem? (i := 27) rfl)) (hw _ (List.mem_of_getElem? (i := 20) rfl)) (by decide) (by decide)) (g := (mkF m 6 #[.val (.long x), .second, .val (.long y), .second, .val (.long (x * y)), .second, .unset, .unset, .unset, .unset] [(.long x)])) rfl (by rw [hml]; rfl) (argsL := [(.long x)]) (rest := []) (lenOf own_pd_0 rfl) rfl (by show 2 * 0 + _ ≤ _; exact Nat.le_of_eq rfl) (hb hby own_d4_6) (fun _ _ => ⟨rfl, e0, (by decide : 0 + 0 ≤ _), (by decide : 0 + 0 ≤ _)⟩)
  dsimp only [Pt.U, Pt.locs, Pt.cells, Pt.slots] at X1 l1 y1 z1 st1 hQ1
  subst l1 y1 z1
  obtain ⟨rfl, N1q, e1⟩ := hQ1
  have N2 := Fr.app N0 N1q
  refine own_by (T' := T1) (g' := (mkF m 9 #[.val (.long x), .second, .val (.long y), .second, .val (.long (x * y)), .second, .unset, .unset, .unset, .unset] [(.long (absF x))])) st1 ?_
  refine own_by (T' := T1) (g' := (mkF m 11 #[.val (.long x), .second, .val (.long y), .second, .val (.long (x * y)), .second, .val (.long (absF x)), .second, .unset, .unset] [])) (fun _ kt_ => XS.lstore X1.here hx rfl (hb hby own_d4_9) rfl (l' := #[.val (.long x), .second, .val (.long y), .second, .val (.long (x * y)), .second, .val (.long (absF x)), .second, .unset, .unset]) rfl kt_) ?_
  refine own_by (T' := T1) (g' := (mkF m 12 #[.val (.long x), .second, .val (.long y), .second, .val (.long (x * y)), .second, .val (.long (absF x)), .second, .unset, .unset] [(.long y)])) (fun _ kt_ => XS.lloadN X1.here hx rfl (hb hby own_d4_11) rfl kt_) ?_
  obtain ⟨_, _, ⟨T3, L3, k3, n3⟩, -, X3, ⟨Lc3, hQ3, l3, y3, z3⟩, st3⟩ := Jvm.LawKit.callS X1 hx (y := (⟨"java/lang/Math", "abs", "(J)J"⟩ : MethodName)) hown (mvT hZ (hw _ (List.mem_of_getElem? (i := 25) rfl))) (mvT hZ (hw _ (List.mem_of_getElem? (i := 26) rfl))) (mvT hZ (hw _ (List.mem_of_getElem? (i := 20) rfl))) (mvT hZ (hw _ (List.mem_of_getElem? (i := 27) rfl))) (by decide) (backOf (W := 0) (rmAbs l Z a0 hw [] wT wX vU hvU GS y h0 n0 (by omega) O0 ) hZ (hw _ (List.mem_of_getElem? (i := 27) rfl)) (hw _ (List.mem_of_getElem? (i := 20) rfl)) (by decide) (by decide)) (g := (mkF m 12 #[.val (.long x), .second, .val (.long y), .second, .val (.long (x * y)), .second, .val (.long (absF x)), .second, .unset, .unset] [(.long y)])) rfl (by rw [hml]; rfl) (argsL := [(.long y)]) (rest := []) (lenOf own_pd_0 rfl) rfl (by show 2 * 0 + _ ≤ _; exact Nat.le_of_eq rfl) (hb hby own_d4_12) (fun _ _ => ⟨rfl, e1, (by decide : 0 + 0 ≤ _), (by decide : 0 + 0 ≤ _)⟩)
  dsimp only [Pt.U, Pt.locs, Pt.cells, Pt.slots] at X3 l3 y3 z3 st3 hQ3
  subst l3 y3 z3
  obtain ⟨rfl, N3q, e3⟩ := hQ3
  have N4 := Fr.app N2 N3q
  refine own_by (T' := T3) (g' := (mkF m 15 #[.val (.long x), .second, .val (.long y), .second, .val (.long (x * y)), .second, .val (.long (absF x)), .second, .unset, .unset] [(.long (absF y))])) st3 ?_
  refine own_by (T' := T3) (g' := (mkF m 17 #[.val (.long x), .second, .val (.long y), .second, .val (.long (x * y)), .second, .val (.long (absF x)), .second, .val (.long (absF y)), .second] [])) (fun _ kt_ => XS.lstore X3.here hx rfl (hb hby own_d4_15) rfl (l' := #[.val (.long x), .second, .val (.long y), .second, .val (.long (x * y)), .second, .val (.long (absF x)), .second, .val (.long (absF y)), .second]) rfl kt_) ?_
  refine own_by (T' := T3) (g' := (mkF m 19 #[.val (.long x), .second, .val (.long y), .second, .val (.long (x * y)), .second, .val (.long (absF x)), .second, .val (.long (absF y)), .second] [(.long (absF x))])) (fun _ kt_ => XS.lload X3.here hx rfl (hb hby own_d4_17) rfl kt_) ?_
  refine own_by (T' := T3) (g' := (mkF m 21 #[.val (.long x), .second, .val (.long y), .second, .val (.long (x * y)), .second, .val (.long (absF x)), .second, .val (.long (absF y)), .second] [(.long (absF y)), (.long (absF x))])) (fun _ kt_ => XS.lload X3.here hx rfl (hb hby own_d4_19) rfl kt_) ?_
  refine own_by (T' := T3) (g' := (mkF m 22 #[.val (.long x), .second, .val (.long y), .second, .val (.long (x * y)), .second, .val (.long (absF x)), .second, .val (.long (absF y)), .second] [(.long ((absF x) ||| (absF y)))])) (fun _ kt_ => XS.lor X3.here hx rfl (hb hby own_d4_21) rfl kt_) ?_
  refine own_by (T' := T3) (g' := (mkF m 24 #[.val (.long x), .second, .val (.long y), .second, .val (.long (x * y)), .second, .val (.long (absF x)), .second, .val (.long (absF y)), .second] [(.int (31 : Int32)), (.long ((absF x) ||| (absF y)))])) (fun _ kt_ => XS.bipush X3.here hx rfl (hb hby own_d4_22) kt_) ?_
  refine own_by (T' := T3) (g' := (mkF m 25 #[.val (.long x), .second, .val (.long y), .second, .val (.long (x * y)), .second, .val (.long (absF x)), .second, .val (.long (absF y)), .second] [(.long ((((absF x) ||| (absF y)).toUInt64 >>> ((31 : Int32) &&& 0x3f).toInt64.toUInt64).toInt64))])) (fun _ kt_ => XS.lushr X3.here hx rfl (hb hby own_d4_24) rfl kt_) ?_
  refine own_by (T' := T3) (g' := (mkF m 26 #[.val (.long x), .second, .val (.long y), .second, .val (.long (x * y)), .second, .val (.long (absF x)), .second, .val (.long (absF y)), .second] [(.long (0 : Int64)), (.long ((((absF x) ||| (absF y)).toUInt64 >>> ((31 : Int32) &&& 0x3f).toInt64.toUInt64).toInt64))])) (fun _ kt_ => XS.lconst X3.here hx rfl (hb hby own_d4_25) kt_) ?_
  refine own_by (T' := T3) (g' := (mkF m 27 #[.val (.long x), .second, .val (.long y), .second, .val (.long (x * y)), .second, .val (.long (absF x)), .second, .val (.long (absF y)), .second] [(.int (XT.cmpL ((((absF x) ||| (absF y)).toUInt64 >>> ((31 : Int32) &&& 0x3f).toInt64.toUInt64).toInt64) (0 : Int64)))])) (fun _ kt_ => XT.lcmp X3.here hx rfl (hb hby own_d4_26) rfl kt_) ?_
  refine own_by (T' := T3) (g' := (mkF m 71 #[.val (.long x), .second, .val (.long y), .second, .val (.long (x * y)), .second, .val (.long (absF x)), .second, .val (.long (absF y)), .second] [])) (fun _ kt_ => XS.ifYes X3.here hx rfl (pc0 := 27) (pc' := 71) rfl (hb hby own_d4_27) rfl (XT.ll_eq_t hz) (by decide) (by decide) kt_) ?_
  refine own_by (T' := T3) (g' := (mkF m 73 #[.val (.long x), .second, .val (.long y), .second, .val (.long (x * y)), .second, .val (.long (absF x)), .second, .val (.long (absF y)), .second] [(.long (x * y))])) (fun _ kt_ => XS.lload X3.here hx rfl (hb hby own_d4_71) rfl kt_) ?_
  obtain ⟨fs5, hr5, hrun5, hended5, hW5, hsame5⟩ := X3.leave (v := some (.long (x * y))) (fun h => by rw [Bd.returns] at h; cases h)
  refine ⟨_, _, retOut X3 hx (t := .long) Bd.returns rfl (Or.inr (Or.inl ⟨rfl, rfl, _, rfl⟩)) (hb hby own_d4_73) hr5, hrun5, hended5, _, _, rfl, ?_, ⟨_, rfl⟩, hW5, hsame5.mono (by decide) (by decide)⟩
  show Q_rmMul Z wT wX vU hvU x y h0 n0 _ T3.heap _
  exact ⟨rfl, N4, e3⟩
theorem own_pd_1 : parseMethodDescriptor "(JJ)J" = some ⟨[.long, .long], some .long⟩ := by decide +kernel
theorem own_d3_0 : decode jdk_29_method_29_code 0 = .ok (.lload_n 0, 1) := by decide +kernel
theorem own_d3_1 : decode jdk_29_method_29_code 1 = .ok (.iload_n 2, 1) := by decide +kernel
theorem own_d3_2 : decode jdk_29_method_29_code 2 = .ok (.i2l, 1) := by decide +kernel
theorem own_d3_3 : decode jdk_29_method_29_code 3 = .ok (.invokestatic 118, 3) := by decide +kernel
theorem own_d3_6 : decode jdk_29_method_29_code 6 = .ok (.lreturn, 1) := by decide +kernel
theorem own_ef_rmMulI (m : MethodId) (x0 : Int64) (x1 : Int32) : entryFrame m #[(.long x0), (.int x1)] 3 = mkF m 0 #[.val (.long x0), .second, .val (.int x1)] [] := by first | (simp [entryFrame, mkF, argsToLocals, Value.category]; done) | rfl
def Q_rmMulI (Z : State) (wT : Addr) (wX : Addr) (vU : Value) (hvU : vU.isRef = true) (x : Int64) (z : Int32) (h0 : Heap) (n0 : Nat) (vv_ : Option Value) (hh_ : Heap) (LL_ : List Loc) : Prop := vv_ = some (.long (x * z.toInt64)) ∧ Fr n0 LL_ ∧ hh_ = h0
set_option maxRecDepth 65536 in
set_option maxHeartbeats 40000000 in
theorem rmMulI (l : Launch) (Z : State) (a0 : Array Value) (hw : ∀ d ∈ tables_1, d.before a0 Z = true) (ws : List Jvm.Cond) (wT : Addr) (wX : Addr) (vU : Value) (hvU : vU.isRef = true) (GS : Glob Z wT wX vU hvU) (x : Int64) (z : Int32) (h0 : Heap) (n0 : Nat) (Z0 : n0 ≤ h0.size) (O0 : Old Z n0 h0) (hz : ((((absF x) ||| (absF (z.toInt64))).toUInt64 >>> ((31 : Int32) &&& 0x3f).toInt64.toUInt64).toInt64) = (0 : Int64)) :
    MetFree l (⟨"java/lang/Math", "multiplyExact", "(JI)J"⟩ : MethodName) (head1 (Jvm.Cond.code (⟨"java/lang/Math", "multiplyExact", "(JI)J"⟩ : MethodName) jdk_29_method_29_code 3 (some .long) :: ws) ({ frames := 2, cells := 0, slots := 0, locals := 34 } : Room)) (fun aa_ UU_ => aa_ = #[(.long x), (.int z)] ∧ Z.Warmed39 UU_.vm ∧ UU_.heap = h0) (fun _ _ _ _ _ => True) (fun _ UU_ oo_ UV_ => ∃ vv_ LL_, oo_ = .returned vv_ ∧ Q_rmMulI Z wT wX vU hvU x z h0 n0 vv_ UV_.heap LL_ ∧ FrameEnd UU_ oo_ UV_ LL_ ({ frames := 2, cells := 0, slots := 0, locals := 34 } : Room).cells ({ frames := 2, cells := 0, slots := 0, locals := 34 } : Room).slots) := by
  refine MetFree.of_bodySF (Jvm.Free.JP.mathPlain rfl (by decide +kernel)) hisR ?_
  intro p e s m args below meth c s₁ Bd hml0 hP hK
  obtain ⟨rfl, hZ, hh⟩ := hP
  have hx := Bd.exec
  have hby := Bd.bytes
  have hml : c.maxLocals = 3 := hml0
  have hown : s.vm.findClass "java/lang/Math" = some m.cls := findClass_of_methodNamed Bd.named
  have hnm := (name_of_methodNamed Bd.named Bd.method).1
  have X0 : Stand p l e ({ frames := 2, cells := 0, slots := 0, locals := 34 } : Room) s m #[(.long x), (.int z)] below meth c s₁ [] 0 0 := Stand.of_body Bd
  have e0 : s₁.heap = h0 := by rw [← hh, Bd.state]; rfl
  have N0 := Fr.nil n0
  have hn0 : Z.heap.size = n0 := O0.1
  have KT0 : Keep h0 h0 [] := Keep.refl _ _
  refine own_enter (Φ := fun oo_ UV_ => ∃ vv_ LL_, oo_ = .returned vv_ ∧ Q_rmMulI Z wT wX vU hvU x z h0 n0 vv_ UV_.heap LL_ ∧ FrameEnd s oo_ UV_ LL_ ({ frames := 2, cells := 0, slots := 0, locals := 34 } : Room).cells ({ frames := 2, cells := 0, slots := 0, locals := 34 } : Room).slots) (own_ef_rmMulI m x z) ?_
  refine own_by (T' := s₁) (g' := (mkF m 1 #[.val (.long x), .second, .val (.int z)] [(.long x)])) (fun _ kt_ => XS.lloadN X0.here hx rfl (hb hby own_d3_0) rfl kt_) ?_
  refine own_by (T' := s₁) (g' := (mkF m 2 #[.val (.long x), .second, .val (.int z)] [(.int z), (.long x)])) (fun _ kt_ => XS.iloadN X0.here hx rfl (hb hby own_d3_1) rfl kt_) ?_
  refine own_by (T' := s₁) (g' := (mkF m 3 #[.val (.long x), .second, .val (.int z)] [(.long z.toInt64), (.long x)])) (fun _ kt_ => XS.i2l X0.here hx rfl (hb hby own_d3_2) rfl kt_) ?_
  obtain ⟨_, _, ⟨T1, L1, k1, n1⟩, -, X1, ⟨Lc1, hQ1, l1, y1, z1⟩, st1⟩ := Jvm.LawKit.callS X0 hx (y := (⟨"java/lang/Math", "multiplyExact", "(JJ)J"⟩ : MethodName)) hown (mvT hZ (hw _ (List.mem_of_getElem? (i := 22) rfl))) (mvT hZ (hw _ (List.mem_of_getElem? (i := 23) rfl))) (mvT hZ (hw _ (List.mem_of_getElem? (i := 20) rfl))) (mvT hZ (hw _ (List.mem_of_getElem? (i := 24) rfl))) (by decide) (backOf (W := 0) (rmMul l Z a0 hw [] wT wX vU hvU GS x z.toInt64 h0 n0 (by omega) O0 hz) hZ (hw _ (List.mem_of_getElem? (i := 24) rfl)) (hw _ (List.mem_of_getElem? (i := 20) rfl)) (by decide) (by decide)) (g := (mkF m 3 #[.val (.long x), .second, .val (.int z)] [(.long z.toInt64), (.long x)])) rfl (by rw [hml]; rfl) (argsL := [(.long x), (.long z.toInt64)]) (rest := []) (lenOf own_pd_1 rfl) rfl (by show 2 * 0 + _ ≤ _; exact Nat.le_of_eq rfl) (hb hby own_d3_3) (fun _ _ => ⟨rfl, e0, (by decide : 0 + 0 ≤ _), (by decide : 0 + 0 ≤ _)⟩)
  dsimp only [Pt.U, Pt.locs, Pt.cells, Pt.slots] at X1 l1 y1 z1 st1 hQ1
  subst l1 y1 z1
  obtain ⟨rfl, N1q, e1⟩ := hQ1
  have N2 := Fr.app N0 N1q
  refine own_by (T' := T1) (g' := (mkF m 6 #[.val (.long x), .second, .val (.int z)] [(.long (x * z.toInt64))])) st1 ?_
  obtain ⟨fs3, hr3, hrun3, hended3, hW3, hsame3⟩ := X1.leave (v := some (.long (x * z.toInt64))) (fun h => by rw [Bd.returns] at h; cases h)
  refine ⟨_, _, retOut X1 hx (t := .long) Bd.returns rfl (Or.inr (Or.inl ⟨rfl, rfl, _, rfl⟩)) (hb hby own_d3_6) hr3, hrun3, hended3, _, _, rfl, ?_, ⟨_, rfl⟩, hW3, hsame3.mono (by decide) (by decide)⟩
  show Q_rmMulI Z wT wX vU hvU x z h0 n0 _ T1.heap _
  exact ⟨rfl, N2, e1⟩
theorem own_d6_0 : decode jdk_29_method_25_code 0 = .ok (.lload_n 0, 1) := by decide +kernel
theorem own_d6_1 : decode jdk_29_method_25_code 1 = .ok (.lload_n 2, 1) := by decide +kernel
theorem own_d6_2 : decode jdk_29_method_25_code 2 = .ok (.ladd, 1) := by decide +kernel
theorem own_d6_3 : decode jdk_29_method_25_code 3 = .ok (.lstore 4, 2) := by decide +kernel
theorem own_d6_5 : decode jdk_29_method_25_code 5 = .ok (.lload_n 0, 1) := by decide +kernel
theorem own_d6_6 : decode jdk_29_method_25_code 6 = .ok (.lload 4, 2) := by decide +kernel
theorem own_d6_8 : decode jdk_29_method_25_code 8 = .ok (.lxor, 1) := by decide +kernel
theorem own_d6_9 : decode jdk_29_method_25_code 9 = .ok (.lload_n 2, 1) := by decide +kernel
theorem own_d6_10 : decode jdk_29_method_25_code 10 = .ok (.lload 4, 2) := by decide +kernel
theorem own_d6_12 : decode jdk_29_method_25_code 12 = .ok (.lxor, 1) := by decide +kernel
theorem own_d6_13 : decode jdk_29_method_25_code 13 = .ok (.land, 1) := by decide +kernel
theorem own_d6_14 : decode jdk_29_method_25_code 14 = .ok (.lconst 0, 1) := by decide +kernel
theorem own_d6_15 : decode jdk_29_method_25_code 15 = .ok (.lcmp, 1) := by decide +kernel
theorem own_d6_16 : decode jdk_29_method_25_code 16 = .ok (.ifCond .ge 13, 3) := by decide +kernel
theorem own_d6_29 : decode jdk_29_method_25_code 29 = .ok (.lload 4, 2) := by decide +kernel
theorem own_d6_31 : decode jdk_29_method_25_code 31 = .ok (.lreturn, 1) := by decide +kernel
theorem own_ef_rmAdd (m : MethodId) (x0 : Int64) (x1 : Int64) : entryFrame m #[(.long x0), (.long x1)] 6 = mkF m 0 #[.val (.long x0), .second, .val (.long x1), .second, .unset, .unset] [] := by first | (simp [entryFrame, mkF, argsToLocals, Value.category]; done) | rfl
def Q_rmAdd (Z : State) (wT : Addr) (wX : Addr) (vU : Value) (hvU : vU.isRef = true) (x : Int64) (y : Int64) (h0 : Heap) (n0 : Nat) (vv_ : Option Value) (hh_ : Heap) (LL_ : List Loc) : Prop := vv_ = some (.long (x + y)) ∧ Fr n0 LL_ ∧ hh_ = h0
set_option maxRecDepth 65536 in
set_option maxHeartbeats 40000000 in
theorem rmAdd (l : Launch) (Z : State) (a0 : Array Value) (hw : ∀ d ∈ tables_1, d.before a0 Z = true) (ws : List Jvm.Cond) (wT : Addr) (wX : Addr) (vU : Value) (hvU : vU.isRef = true) (GS : Glob Z wT wX vU hvU) (x : Int64) (y : Int64) (h0 : Heap) (n0 : Nat) (Z0 : n0 ≤ h0.size) (O0 : Old Z n0 h0) (hz : ¬ ((x ^^^ (x + y)) &&& (y ^^^ (x + y))) < (0 : Int64)) :
    MetFree l (⟨"java/lang/Math", "addExact", "(JJ)J"⟩ : MethodName) (head1 (Jvm.Cond.code (⟨"java/lang/Math", "addExact", "(JJ)J"⟩ : MethodName) jdk_29_method_25_code 6 (some .long) :: ws) ({ frames := 0, cells := 0, slots := 0, locals := 0 } : Room)) (fun aa_ UU_ => aa_ = #[(.long x), (.long y)] ∧ Z.Warmed39 UU_.vm ∧ UU_.heap = h0) (fun _ _ _ _ _ => True) (fun _ UU_ oo_ UV_ => ∃ vv_ LL_, oo_ = .returned vv_ ∧ Q_rmAdd Z wT wX vU hvU x y h0 n0 vv_ UV_.heap LL_ ∧ FrameEnd UU_ oo_ UV_ LL_ ({ frames := 0, cells := 0, slots := 0, locals := 0 } : Room).cells ({ frames := 0, cells := 0, slots := 0, locals := 0 } : Room).slots) := by
  refine MetFree.of_bodySF (Jvm.Free.JP.mathPlain rfl (by decide +kernel)) hisR ?_
  intro p e s m args below meth c s₁ Bd hml0 hP hK
  obtain ⟨rfl, hZ, hh⟩ := hP
  have hx := Bd.exec
  have hby := Bd.bytes
  have hml : c.maxLocals = 6 := hml0
  have hown : s.vm.findClass "java/lang/Math" = some m.cls := findClass_of_methodNamed Bd.named
  have hnm := (name_of_methodNamed Bd.named Bd.method).1
  have X0 : Stand p l e ({ frames := 0, cells := 0, slots := 0, locals := 0 } : Room) s m #[(.long x), (.long y)] below meth c s₁ [] 0 0 := Stand.of_body Bd
  have e0 : s₁.heap = h0 := by rw [← hh, Bd.state]; rfl
  have N0 := Fr.nil n0
  have hn0 : Z.heap.size = n0 := O0.1
  have KT0 : Keep h0 h0 [] := Keep.refl _ _
  refine own_enter (Φ := fun oo_ UV_ => ∃ vv_ LL_, oo_ = .returned vv_ ∧ Q_rmAdd Z wT wX vU hvU x y h0 n0 vv_ UV_.heap LL_ ∧ FrameEnd s oo_ UV_ LL_ ({ frames := 0, cells := 0, slots := 0, locals := 0 } : Room).cells ({ frames := 0, cells := 0, slots := 0, locals := 0 } : Room).slots) (own_ef_rmAdd m x y) ?_
  refine own_by (T' := s₁) (g' := (mkF m 1 #[.val (.long x), .second, .val (.long y), .second, .unset, .unset] [(.long x)])) (fun _ kt_ => XS.lloadN X0.here hx rfl (hb hby own_d6_0) rfl kt_) ?_
  refine own_by (T' := s₁) (g' := (mkF m 2 #[.val (.long x), .second, .val (.long y), .second, .unset, .unset] [(.long y), (.long x)])) (fun _ kt_ => XS.lloadN X0.here hx rfl (hb hby own_d6_1) rfl kt_) ?_
  refine own_by (T' := s₁) (g' := (mkF m 3 #[.val (.long x), .second, .val (.long y), .second, .unset, .unset] [(.long (x + y))])) (fun _ kt_ => XS.ladd X0.here hx rfl (hb hby own_d6_2) rfl kt_) ?_
  refine own_by (T' := s₁) (g' := (mkF m 5 #[.val (.long x), .second, .val (.long y), .second, .val (.long (x + y)), .second] [])) (fun _ kt_ => XS.lstore X0.here hx rfl (hb hby own_d6_3) rfl (l' := #[.val (.long x), .second, .val (.long y), .second, .val (.long (x + y)), .second]) rfl kt_) ?_
  refine own_by (T' := s₁) (g' := (mkF m 6 #[.val (.long x), .second, .val (.long y), .second, .val (.long (x + y)), .second] [(.long x)])) (fun _ kt_ => XS.lloadN X0.here hx rfl (hb hby own_d6_5) rfl kt_) ?_
  refine own_by (T' := s₁) (g' := (mkF m 8 #[.val (.long x), .second, .val (.long y), .second, .val (.long (x + y)), .second] [(.long (x + y)), (.long x)])) (fun _ kt_ => XS.lload X0.here hx rfl (hb hby own_d6_6) rfl kt_) ?_
  refine own_by (T' := s₁) (g' := (mkF m 9 #[.val (.long x), .second, .val (.long y), .second, .val (.long (x + y)), .second] [(.long (x ^^^ (x + y)))])) (fun _ kt_ => XS.lxor X0.here hx rfl (hb hby own_d6_8) rfl kt_) ?_
  refine own_by (T' := s₁) (g' := (mkF m 10 #[.val (.long x), .second, .val (.long y), .second, .val (.long (x + y)), .second] [(.long y), (.long (x ^^^ (x + y)))])) (fun _ kt_ => XS.lloadN X0.here hx rfl (hb hby own_d6_9) rfl kt_) ?_
  refine own_by (T' := s₁) (g' := (mkF m 12 #[.val (.long x), .second, .val (.long y), .second, .val (.long (x + y)), .second] [(.long (x + y)), (.long y), (.long (x ^^^ (x + y)))])) (fun _ kt_ => XS.lload X0.here hx rfl (hb hby own_d6_10) rfl kt_) ?_
  refine own_by (T' := s₁) (g' := (mkF m 13 #[.val (.long x), .second, .val (.long y), .second, .val (.long (x + y)), .second] [(.long (y ^^^ (x + y))), (.long (x ^^^ (x + y)))])) (fun _ kt_ => XS.lxor X0.here hx rfl (hb hby own_d6_12) rfl kt_) ?_
  refine own_by (T' := s₁) (g' := (mkF m 14 #[.val (.long x), .second, .val (.long y), .second, .val (.long (x + y)), .second] [(.long ((x ^^^ (x + y)) &&& (y ^^^ (x + y))))])) (fun _ kt_ => XS.land X0.here hx rfl (hb hby own_d6_13) rfl kt_) ?_
  refine own_by (T' := s₁) (g' := (mkF m 15 #[.val (.long x), .second, .val (.long y), .second, .val (.long (x + y)), .second] [(.long (0 : Int64)), (.long ((x ^^^ (x + y)) &&& (y ^^^ (x + y))))])) (fun _ kt_ => XS.lconst X0.here hx rfl (hb hby own_d6_14) kt_) ?_
  refine own_by (T' := s₁) (g' := (mkF m 16 #[.val (.long x), .second, .val (.long y), .second, .val (.long (x + y)), .second] [(.int (XT.cmpL ((x ^^^ (x + y)) &&& (y ^^^ (x + y))) (0 : Int64)))])) (fun _ kt_ => XT.lcmp X0.here hx rfl (hb hby own_d6_15) rfl kt_) ?_
  refine own_by (T' := s₁) (g' := (mkF m 29 #[.val (.long x), .second, .val (.long y), .second, .val (.long (x + y)), .second] [])) (fun _ kt_ => XS.ifYes X0.here hx rfl (pc0 := 16) (pc' := 29) rfl (hb hby own_d6_16) rfl (XT.ll_ge_t hz) (by decide) (by decide) kt_) ?_
  refine own_by (T' := s₁) (g' := (mkF m 31 #[.val (.long x), .second, .val (.long y), .second, .val (.long (x + y)), .second] [(.long (x + y))])) (fun _ kt_ => XS.lload X0.here hx rfl (hb hby own_d6_29) rfl kt_) ?_
  obtain ⟨fs1, hr1, hrun1, hended1, hW1, hsame1⟩ := X0.leave (v := some (.long (x + y))) (fun h => by rw [Bd.returns] at h; cases h)
  refine ⟨_, _, retOut X0 hx (t := .long) Bd.returns rfl (Or.inr (Or.inl ⟨rfl, rfl, _, rfl⟩)) (hb hby own_d6_31) hr1, hrun1, hended1, _, _, rfl, ?_, ⟨_, rfl⟩, hW1, hsame1.mono (by decide) (by decide)⟩
  show Q_rmAdd Z wT wX vU hvU x y h0 n0 _ s₁.heap _
  exact ⟨rfl, N0, e0⟩
theorem own_pd_2 : parseMethodDescriptor "(JI)J" = some ⟨[.long, .int], some .long⟩ := by decide +kernel
theorem own_d2_0 : decode jdk_2316_method_57_code 0 = .ok (.aload_n 0, 1) := by decide +kernel
theorem own_d2_1 : decode jdk_2316_method_57_code 1 = .ok (.getfield 221, 3) := by decide +kernel
theorem own_d2_4 : decode jdk_2316_method_57_code 4 = .ok (.lstore_n 1, 1) := by decide +kernel
theorem own_d2_5 : decode jdk_2316_method_57_code 5 = .ok (.aload_n 0, 1) := by decide +kernel
theorem own_d2_6 : decode jdk_2316_method_57_code 6 = .ok (.getfield 224, 3) := by decide +kernel
theorem own_d2_9 : decode jdk_2316_method_57_code 9 = .ok (.i2l, 1) := by decide +kernel
theorem own_d2_10 : decode jdk_2316_method_57_code 10 = .ok (.lstore_n 3, 1) := by decide +kernel
theorem own_d2_11 : decode jdk_2316_method_57_code 11 = .ok (.lload_n 1, 1) := by decide +kernel
theorem own_d2_12 : decode jdk_2316_method_57_code 12 = .ok (.lconst 0, 1) := by decide +kernel
theorem own_d2_13 : decode jdk_2316_method_57_code 13 = .ok (.lcmp, 1) := by decide +kernel
theorem own_d2_14 : decode jdk_2316_method_57_code 14 = .ok (.ifCond .ge 13, 3) := by decide +kernel
theorem own_d2_27 : decode jdk_2316_method_57_code 27 = .ok (.lload_n 1, 1) := by decide +kernel
theorem own_d2_28 : decode jdk_2316_method_57_code 28 = .ok (.sipush 1000, 3) := by decide +kernel
theorem own_d2_31 : decode jdk_2316_method_57_code 31 = .ok (.invokestatic 4, 3) := by decide +kernel
theorem own_d2_34 : decode jdk_2316_method_57_code 34 = .ok (.lstore 5, 2) := by decide +kernel
theorem own_d2_36 : decode jdk_2316_method_57_code 36 = .ok (.lload 5, 2) := by decide +kernel
theorem own_d2_38 : decode jdk_2316_method_57_code 38 = .ok (.lload_n 3, 1) := by decide +kernel
theorem own_d2_39 : decode jdk_2316_method_57_code 39 = .ok (.ldc2_w 294, 3) := by decide +kernel
theorem own_d2_42 : decode jdk_2316_method_57_code 42 = .ok (.ldiv, 1) := by decide +kernel
theorem own_d2_43 : decode jdk_2316_method_57_code 43 = .ok (.invokestatic 22, 3) := by decide +kernel
theorem own_d2_46 : decode jdk_2316_method_57_code 46 = .ok (.lstore 5, 2) := by decide +kernel
theorem own_d2_48 : decode jdk_2316_method_57_code 48 = .ok (.lload 5, 2) := by decide +kernel
theorem own_d2_50 : decode jdk_2316_method_57_code 50 = .ok (.lreturn, 1) := by decide +kernel
theorem own_pn_java_time_Duration : plainName "java/time/Duration" = true := by first | (simp [plainName, overriddenIn]; done) | decide +kernel
theorem own_ef_rmDT (m : MethodId) (x0 : Addr) : entryFrame m #[(.ref x0)] 7 = mkF m 0 #[.val (.ref x0), .unset, .unset, .unset, .unset, .unset, .unset] [] := by first | (simp [entryFrame, mkF, argsToLocals, Value.category]; done) | rfl
def Q_rmDT (Z : State) (wT : Addr) (wX : Addr) (vU : Value) (hvU : vU.isRef = true) (h0 : Heap) (n0 : Nat) (vv_ : Option Value) (hh_ : Heap) (LL_ : List Loc) : Prop := vv_ = some (.long (10000 : Int64)) ∧ Fr n0 LL_ ∧ hh_ = h0
set_option maxRecDepth 65536 in
set_option maxHeartbeats 40000000 in
theorem rmDT (l : Launch) (Z : State) (a0 : Array Value) (hw : ∀ d ∈ tables_1, d.before a0 Z = true) (ws : List Jvm.Cond) (wT : Addr) (wX : Addr) (vU : Value) (hvU : vU.isRef = true) (GS : Glob Z wT wX vU hvU)  (h0 : Heap) (n0 : Nat) (Z0 : n0 ≤ h0.size) (O0 : Old Z n0 h0) :
    MetFree l (⟨"java/time/Duration", "toMillis", "()J"⟩ : MethodName) (head1 (Jvm.Cond.code (⟨"java/time/Duration", "toMillis", "()J"⟩ : MethodName) jdk_2316_method_57_code 7 (some .long) :: ws) ({ frames := 3, cells := 0, slots := 0, locals := 48 } : Room)) (fun aa_ UU_ => aa_ = #[(.ref wT)] ∧ Z.Warmed39 UU_.vm ∧ UU_.heap = h0) (fun _ _ _ _ _ => True) (fun _ UU_ oo_ UV_ => ∃ vv_ LL_, oo_ = .returned vv_ ∧ Q_rmDT Z wT wX vU hvU h0 n0 vv_ UV_.heap LL_ ∧ FrameEnd UU_ oo_ UV_ LL_ ({ frames := 3, cells := 0, slots := 0, locals := 48 } : Room).cells ({ frames := 3, cells := 0, slots := 0, locals := 48 } : Room).slots) := by
  refine MetFree.of_bodySF (plainFor_of_name own_pn_java_time_Duration) hisR ?_
  intro p e s m args below meth c s₁ Bd hml0 hP hK
  obtain ⟨rfl, hZ, hh⟩ := hP
  have hx := Bd.exec
  have hby := Bd.bytes
  have hml : c.maxLocals = 7 := hml0
  have hown : s.vm.findClass "java/time/Duration" = some m.cls := findClass_of_methodNamed Bd.named
  have hnm := (name_of_methodNamed Bd.named Bd.method).1
  have X0 : Stand p l e ({ frames := 3, cells := 0, slots := 0, locals := 48 } : Room) s m #[(.ref wT)] below meth c s₁ [] 0 0 := Stand.of_body Bd
  have e0 : s₁.heap = h0 := by rw [← hh, Bd.state]; rfl
  have N0 := Fr.nil n0
  have hn0 : Z.heap.size = n0 := O0.1
  have KT0 : Keep h0 h0 [] := Keep.refl _ _
  refine own_enter (Φ := fun oo_ UV_ => ∃ vv_ LL_, oo_ = .returned vv_ ∧ Q_rmDT Z wT wX vU hvU h0 n0 vv_ UV_.heap LL_ ∧ FrameEnd s oo_ UV_ LL_ ({ frames := 3, cells := 0, slots := 0, locals := 48 } : Room).cells ({ frames := 3, cells := 0, slots := 0, locals := 48 } : Room).slots) (own_ef_rmDT m wT) ?_
  refine own_by (T' := s₁) (g' := (mkF m 1 #[.val (.ref wT), .unset, .unset, .unset, .unset, .unset, .unset] [(.ref wT)])) (fun _ kt_ => XS.aloadN X0.here hx rfl (hb hby own_d2_0) rfl rfl kt_) ?_
  have f1 := GS.2.2.1.ext O0.2
  obtain ⟨T2, X2, e2, st2⟩ := getF X0 hx hZ hown (host := "") (Or.inl (hw _ (List.mem_of_getElem? (i := 14) rfl))) Via.refl e0 f1 (g := (mkF m 1 #[.val (.ref wT), .unset, .unset, .unset, .unset, .unset, .unset] [(.ref wT)])) rfl rfl (hb hby own_d2_1)
  refine own_by (T' := T2) (g' := (mkF m 4 #[.val (.ref wT), .unset, .unset, .unset, .unset, .unset, .unset] [(.long (10 : Int64))])) st2 ?_
  refine own_by (T' := T2) (g' := (mkF m 5 #[.val (.ref wT), .val (.long (10 : Int64)), .second, .unset, .unset, .unset, .unset] [])) (fun _ kt_ => XS.lstoreN X2.here hx rfl (hb hby own_d2_4) rfl (l' := #[.val (.ref wT), .val (.long (10 : Int64)), .second, .unset, .unset, .unset, .unset]) rfl kt_) ?_
  refine own_by (T' := T2) (g' := (mkF m 6 #[.val (.ref wT), .val (.long (10 : Int64)), .second, .unset, .unset, .unset, .unset] [(.ref wT)])) (fun _ kt_ => XS.aloadN X2.here hx rfl (hb hby own_d2_5) rfl rfl kt_) ?_
  have f3 := GS.2.2.2.1.ext O0.2
  obtain ⟨T4, X4, e4, st4⟩ := getF X2 hx hZ hown (host := "") (Or.inl (hw _ (List.mem_of_getElem? (i := 16) rfl))) Via.refl e2 f3 (g := (mkF m 6 #[.val (.ref wT), .val (.long (10 : Int64)), .second, .unset, .unset, .unset, .unset] [(.ref wT)])) rfl rfl (hb hby own_d2_6)
  refine own_by (T' := T4) (g' := (mkF m 9 #[.val (.ref wT), .val (.long (10 : Int64)), .second, .unset, .unset, .unset, .unset] [(.int (0 : Int32))])) st4 ?_
  refine own_by (T' := T4) (g' := (mkF m 10 #[.val (.ref wT), .val (.long (10 : Int64)), .second, .unset, .unset, .unset, .unset] [(.long (0 : Int32).toInt64)])) (fun _ kt_ => XS.i2l X4.here hx rfl (hb hby own_d2_9) rfl kt_) ?_
  refine own_by (T' := T4) (g' := (mkF m 11 #[.val (.ref wT), .val (.long (10 : Int64)), .second, .val (.long (0 : Int32).toInt64), .second, .unset, .unset] [])) (fun _ kt_ => XS.lstoreN X4.here hx rfl (hb hby own_d2_10) rfl (l' := #[.val (.ref wT), .val (.long (10 : Int64)), .second, .val (.long (0 : Int32).toInt64), .second, .unset, .unset]) rfl kt_) ?_
  refine own_by (T' := T4) (g' := (mkF m 12 #[.val (.ref wT), .val (.long (10 : Int64)), .second, .val (.long (0 : Int32).toInt64), .second, .unset, .unset] [(.long (10 : Int64))])) (fun _ kt_ => XS.lloadN X4.here hx rfl (hb hby own_d2_11) rfl kt_) ?_
  refine own_by (T' := T4) (g' := (mkF m 13 #[.val (.ref wT), .val (.long (10 : Int64)), .second, .val (.long (0 : Int32).toInt64), .second, .unset, .unset] [(.long (0 : Int64)), (.long (10 : Int64))])) (fun _ kt_ => XS.lconst X4.here hx rfl (hb hby own_d2_12) kt_) ?_
  refine own_by (T' := T4) (g' := (mkF m 14 #[.val (.ref wT), .val (.long (10 : Int64)), .second, .val (.long (0 : Int32).toInt64), .second, .unset, .unset] [(.int (XT.cmpL (10 : Int64) (0 : Int64)))])) (fun _ kt_ => XT.lcmp X4.here hx rfl (hb hby own_d2_13) rfl kt_) ?_
  refine own_by (T' := T4) (g' := (mkF m 27 #[.val (.ref wT), .val (.long (10 : Int64)), .second, .val (.long (0 : Int32).toInt64), .second, .unset, .unset] [])) (fun _ kt_ => XS.ifYes X4.here hx rfl (pc0 := 14) (pc' := 27) rfl (hb hby own_d2_14) rfl (XT.ll_ge_t (by decide)) (by decide) (by decide) kt_) ?_
  refine own_by (T' := T4) (g' := (mkF m 28 #[.val (.ref wT), .val (.long (10 : Int64)), .second, .val (.long (0 : Int32).toInt64), .second, .unset, .unset] [(.long (10 : Int64))])) (fun _ kt_ => XS.lloadN X4.here hx rfl (hb hby own_d2_27) rfl kt_) ?_
  refine own_by (T' := T4) (g' := (mkF m 31 #[.val (.ref wT), .val (.long (10 : Int64)), .second, .val (.long (0 : Int32).toInt64), .second, .unset, .unset] [(.int (1000 : Int32)), (.long (10 : Int64))])) (fun _ kt_ => XS.sipush X4.here hx rfl (hb hby own_d2_28) kt_) ?_
  obtain ⟨_, _, ⟨T5, L5, k5, n5⟩, -, X5, ⟨Lc5, hQ5, l5, y5, z5⟩, st5⟩ := Jvm.LawKit.callS X4 hx (y := (⟨"java/lang/Math", "multiplyExact", "(JI)J"⟩ : MethodName)) hown (mvT hZ (hw _ (List.mem_of_getElem? (i := 18) rfl))) (mvT hZ (hw _ (List.mem_of_getElem? (i := 19) rfl))) (mvT hZ (hw _ (List.mem_of_getElem? (i := 20) rfl))) (mvT hZ (hw _ (List.mem_of_getElem? (i := 21) rfl))) (by decide) (backOf (W := 0) (rmMulI l Z a0 hw [] wT wX vU hvU GS (10 : Int64) (1000 : Int32) h0 n0 (by omega) O0 (by decide +kernel)) hZ (hw _ (List.mem_of_getElem? (i := 21) rfl)) (hw _ (List.mem_of_getElem? (i := 20) rfl)) (by decide) (by decide)) (g := (mkF m 31 #[.val (.ref wT), .val (.long (10 : Int64)), .second, .val (.long (0 : Int32).toInt64), .second, .unset, .unset] [(.int (1000 : Int32)), (.long (10 : Int64))])) rfl (by rw [hml]; rfl) (argsL := [(.long (10 : Int64)), (.int (1000 : Int32))]) (rest := []) (lenOf own_pd_2 rfl) rfl (by show 2 * 0 + _ ≤ _; exact Nat.le_of_eq rfl) (hb hby own_d2_31) (fun _ _ => ⟨rfl, e4, (by decide : 0 + 0 ≤ _), (by decide : 0 + 0 ≤ _)⟩)
  dsimp only [Pt.U, Pt.locs, Pt.cells, Pt.slots] at X5 l5 y5 z5 st5 hQ5
  subst l5 y5 z5
  obtain ⟨rfl, N5q, e5⟩ := hQ5
  have N6 := Fr.app N0 N5q
  refine own_by (T' := T5) (g' := (mkF m 34 #[.val (.ref wT), .val (.long (10 : Int64)), .second, .val (.long (0 : Int32).toInt64), .second, .unset, .unset] [(.long ((10 : Int64) * (1000 : Int32).toInt64))])) st5 ?_
  refine own_by (T' := T5) (g' := (mkF m 36 #[.val (.ref wT), .val (.long (10 : Int64)), .second, .val (.long (0 : Int32).toInt64), .second, .val (.long ((10 : Int64) * (1000 : Int32).toInt64)), .second] [])) (fun _ kt_ => XS.lstore X5.here hx rfl (hb hby own_d2_34) rfl (l' := #[.val (.ref wT), .val (.long (10 : Int64)), .second, .val (.long (0 : Int32).toInt64), .second, .val (.long ((10 : Int64) * (1000 : Int32).toInt64)), .second]) rfl kt_) ?_
  refine own_by (T' := T5) (g' := (mkF m 38 #[.val (.ref wT), .val (.long (10 : Int64)), .second, .val (.long (0 : Int32).toInt64), .second, .val (.long ((10 : Int64) * (1000 : Int32).toInt64)), .second] [(.long ((10 : Int64) * (1000 : Int32).toInt64))])) (fun _ kt_ => XS.lload X5.here hx rfl (hb hby own_d2_36) rfl kt_) ?_
  refine own_by (T' := T5) (g' := (mkF m 39 #[.val (.ref wT), .val (.long (10 : Int64)), .second, .val (.long (0 : Int32).toInt64), .second, .val (.long ((10 : Int64) * (1000 : Int32).toInt64)), .second] [(.long (0 : Int32).toInt64), (.long ((10 : Int64) * (1000 : Int32).toInt64))])) (fun _ kt_ => XS.lloadN X5.here hx rfl (hb hby own_d2_38) rfl kt_) ?_
  refine own_by (T' := T5) (g' := (mkF m 42 #[.val (.ref wT), .val (.long (10 : Int64)), .second, .val (.long (0 : Int32).toInt64), .second, .val (.long ((10 : Int64) * (1000 : Int32).toInt64)), .second] [(.long (1000000 : Int64)), (.long (0 : Int32).toInt64), (.long ((10 : Int64) * (1000 : Int32).toInt64))])) (fun _ kt_ => X5.ldc2Long hx hown (mvT hZ (hw _ (List.mem_of_getElem? (i := 28) rfl))) (g := (mkF m 39 #[.val (.ref wT), .val (.long (10 : Int64)), .second, .val (.long (0 : Int32).toInt64), .second, .val (.long ((10 : Int64) * (1000 : Int32).toInt64)), .second] [(.long (0 : Int32).toInt64), (.long ((10 : Int64) * (1000 : Int32).toInt64))])) rfl (hb hby own_d2_39) _ kt_) ?_
  refine own_by (T' := T5) (g' := (mkF m 43 #[.val (.ref wT), .val (.long (10 : Int64)), .second, .val (.long (0 : Int32).toInt64), .second, .val (.long ((10 : Int64) * (1000 : Int32).toInt64)), .second] [(.long ((0 : Int32).toInt64 / (1000000 : Int64))), (.long ((10 : Int64) * (1000 : Int32).toInt64))])) (fun _ kt_ => XS.ldiv X5.here hx rfl (hb hby own_d2_42) rfl (by decide) kt_) ?_
  obtain ⟨_, _, ⟨T8, L8, k8, n8⟩, -, X8, ⟨Lc8, hQ8, l8, y8, z8⟩, st8⟩ := Jvm.LawKit.callS X5 hx (y := (⟨"java/lang/Math", "addExact", "(JJ)J"⟩ : MethodName)) hown (mvT hZ (hw _ (List.mem_of_getElem? (i := 29) rfl))) (mvT hZ (hw _ (List.mem_of_getElem? (i := 30) rfl))) (mvT hZ (hw _ (List.mem_of_getElem? (i := 20) rfl))) (mvT hZ (hw _ (List.mem_of_getElem? (i := 31) rfl))) (by decide) (backOf (W := 0) (rmAdd l Z a0 hw [] wT wX vU hvU GS ((10 : Int64) * (1000 : Int32).toInt64) ((0 : Int32).toInt64 / (1000000 : Int64)) h0 n0 (by omega) O0 (by decide +kernel)) hZ (hw _ (List.mem_of_getElem? (i := 31) rfl)) (hw _ (List.mem_of_getElem? (i := 20) rfl)) (by decide) (by decide)) (g := (mkF m 43 #[.val (.ref wT), .val (.long (10 : Int64)), .second, .val (.long (0 : Int32).toInt64), .second, .val (.long ((10 : Int64) * (1000 : Int32).toInt64)), .second] [(.long ((0 : Int32).toInt64 / (1000000 : Int64))), (.long ((10 : Int64) * (1000 : Int32).toInt64))])) rfl (by rw [hml]; rfl) (argsL := [(.long ((10 : Int64) * (1000 : Int32).toInt64)), (.long ((0 : Int32).toInt64 / (1000000 : Int64)))]) (rest := []) (lenOf own_pd_1 rfl) rfl (by show 2 * 0 + _ ≤ _; exact Nat.le_of_eq rfl) (hb hby own_d2_43) (fun _ _ => ⟨rfl, e5, (by decide : 0 + 0 ≤ _), (by decide : 0 + 0 ≤ _)⟩)
  dsimp only [Pt.U, Pt.locs, Pt.cells, Pt.slots] at X8 l8 y8 z8 st8 hQ8
  subst l8 y8 z8
  obtain ⟨rfl, N8q, e8⟩ := hQ8
  have N9 := Fr.app N6 N8q
  refine own_by (T' := T8) (g' := (mkF m 46 #[.val (.ref wT), .val (.long (10 : Int64)), .second, .val (.long (0 : Int32).toInt64), .second, .val (.long ((10 : Int64) * (1000 : Int32).toInt64)), .second] [(.long (((10 : Int64) * (1000 : Int32).toInt64) + ((0 : Int32).toInt64 / (1000000 : Int64))))])) st8 ?_
  refine own_by (T' := T8) (g' := (mkF m 48 #[.val (.ref wT), .val (.long (10 : Int64)), .second, .val (.long (0 : Int32).toInt64), .second, .val (.long (((10 : Int64) * (1000 : Int32).toInt64) + ((0 : Int32).toInt64 / (1000000 : Int64)))), .second] [])) (fun _ kt_ => XS.lstore X8.here hx rfl (hb hby own_d2_46) rfl (l' := #[.val (.ref wT), .val (.long (10 : Int64)), .second, .val (.long (0 : Int32).toInt64), .second, .val (.long (((10 : Int64) * (1000 : Int32).toInt64) + ((0 : Int32).toInt64 / (1000000 : Int64)))), .second]) rfl kt_) ?_
  refine own_by (T' := T8) (g' := (mkF m 50 #[.val (.ref wT), .val (.long (10 : Int64)), .second, .val (.long (0 : Int32).toInt64), .second, .val (.long (((10 : Int64) * (1000 : Int32).toInt64) + ((0 : Int32).toInt64 / (1000000 : Int64)))), .second] [(.long (((10 : Int64) * (1000 : Int32).toInt64) + ((0 : Int32).toInt64 / (1000000 : Int64))))])) (fun _ kt_ => XS.lload X8.here hx rfl (hb hby own_d2_48) rfl kt_) ?_
  have hr10 : (((10 : Int64) * (1000 : Int32).toInt64) + ((0 : Int32).toInt64 / (1000000 : Int64))) = (10000 : Int64) := by decide
  obtain ⟨fs11, hr11, hrun11, hended11, hW11, hsame11⟩ := X8.leave (v := some (.long (((10 : Int64) * (1000 : Int32).toInt64) + ((0 : Int32).toInt64 / (1000000 : Int64))))) (fun h => by rw [Bd.returns] at h; cases h)
  refine ⟨_, _, retOut X8 hx (t := .long) Bd.returns rfl (Or.inr (Or.inl ⟨rfl, rfl, _, rfl⟩)) (hb hby own_d2_50) hr11, hrun11, hended11, _, _, rfl, ?_, ⟨_, rfl⟩, hW11, hsame11.mono (by decide) (by decide)⟩
  show Q_rmDT Z wT wX vU hvU h0 n0 _ T8.heap _
  exact ⟨(congrArg (fun z => some (Value.long z)) hr10), N9, e8⟩
theorem own_ef_rmDX (m : MethodId) (x0 : Addr) : entryFrame m #[(.ref x0)] 7 = mkF m 0 #[.val (.ref x0), .unset, .unset, .unset, .unset, .unset, .unset] [] := by first | (simp [entryFrame, mkF, argsToLocals, Value.category]; done) | rfl
def Q_rmDX (Z : State) (wT : Addr) (wX : Addr) (vU : Value) (hvU : vU.isRef = true) (h0 : Heap) (n0 : Nat) (vv_ : Option Value) (hh_ : Heap) (LL_ : List Loc) : Prop := vv_ = some (.long (30000 : Int64)) ∧ Fr n0 LL_ ∧ hh_ = h0
set_option maxRecDepth 65536 in
set_option maxHeartbeats 40000000 in
theorem rmDX (l : Launch) (Z : State) (a0 : Array Value) (hw : ∀ d ∈ tables_1, d.before a0 Z = true) (ws : List Jvm.Cond) (wT : Addr) (wX : Addr) (vU : Value) (hvU : vU.isRef = true) (GS : Glob Z wT wX vU hvU)  (h0 : Heap) (n0 : Nat) (Z0 : n0 ≤ h0.size) (O0 : Old Z n0 h0) :
    MetFree l (⟨"java/time/Duration", "toMillis", "()J"⟩ : MethodName) (head1 (Jvm.Cond.code (⟨"java/time/Duration", "toMillis", "()J"⟩ : MethodName) jdk_2316_method_57_code 7 (some .long) :: ws) ({ frames := 3, cells := 0, slots := 0, locals := 48 } : Room)) (fun aa_ UU_ => aa_ = #[(.ref wX)] ∧ Z.Warmed39 UU_.vm ∧ UU_.heap = h0) (fun _ _ _ _ _ => True) (fun _ UU_ oo_ UV_ => ∃ vv_ LL_, oo_ = .returned vv_ ∧ Q_rmDX Z wT wX vU hvU h0 n0 vv_ UV_.heap LL_ ∧ FrameEnd UU_ oo_ UV_ LL_ ({ frames := 3, cells := 0, slots := 0, locals := 48 } : Room).cells ({ frames := 3, cells := 0, slots := 0, locals := 48 } : Room).slots) := by
  refine MetFree.of_bodySF (plainFor_of_name own_pn_java_time_Duration) hisR ?_
  intro p e s m args below meth c s₁ Bd hml0 hP hK
  obtain ⟨rfl, hZ, hh⟩ := hP
  have hx := Bd.exec
  have hby := Bd.bytes
  have hml : c.maxLocals = 7 := hml0
  have hown : s.vm.findClass "java/time/Duration" = some m.cls := findClass_of_methodNamed Bd.named
  have hnm := (name_of_methodNamed Bd.named Bd.method).1
  have X0 : Stand p l e ({ frames := 3, cells := 0, slots := 0, locals := 48 } : Room) s m #[(.ref wX)] below meth c s₁ [] 0 0 := Stand.of_body Bd
  have e0 : s₁.heap = h0 := by rw [← hh, Bd.state]; rfl
  have N0 := Fr.nil n0
  have hn0 : Z.heap.size = n0 := O0.1
  have KT0 : Keep h0 h0 [] := Keep.refl _ _
  refine own_enter (Φ := fun oo_ UV_ => ∃ vv_ LL_, oo_ = .returned vv_ ∧ Q_rmDX Z wT wX vU hvU h0 n0 vv_ UV_.heap LL_ ∧ FrameEnd s oo_ UV_ LL_ ({ frames := 3, cells := 0, slots := 0, locals := 48 } : Room).cells ({ frames := 3, cells := 0, slots := 0, locals := 48 } : Room).slots) (own_ef_rmDX m wX) ?_
  refine own_by (T' := s₁) (g' := (mkF m 1 #[.val (.ref wX), .unset, .unset, .unset, .unset, .unset, .unset] [(.ref wX)])) (fun _ kt_ => XS.aloadN X0.here hx rfl (hb hby own_d2_0) rfl rfl kt_) ?_
  have f1 := GS.2.2.2.2.2.2.1.ext O0.2
  obtain ⟨T2, X2, e2, st2⟩ := getF X0 hx hZ hown (host := "") (Or.inl (hw _ (List.mem_of_getElem? (i := 14) rfl))) Via.refl e0 f1 (g := (mkF m 1 #[.val (.ref wX), .unset, .unset, .unset, .unset, .unset, .unset] [(.ref wX)])) rfl rfl (hb hby own_d2_1)
  refine own_by (T' := T2) (g' := (mkF m 4 #[.val (.ref wX), .unset, .unset, .unset, .unset, .unset, .unset] [(.long (30 : Int64))])) st2 ?_
  refine own_by (T' := T2) (g' := (mkF m 5 #[.val (.ref wX), .val (.long (30 : Int64)), .second, .unset, .unset, .unset, .unset] [])) (fun _ kt_ => XS.lstoreN X2.here hx rfl (hb hby own_d2_4) rfl (l' := #[.val (.ref wX), .val (.long (30 : Int64)), .second, .unset, .unset, .unset, .unset]) rfl kt_) ?_
  refine own_by (T' := T2) (g' := (mkF m 6 #[.val (.ref wX), .val (.long (30 : Int64)), .second, .unset, .unset, .unset, .unset] [(.ref wX)])) (fun _ kt_ => XS.aloadN X2.here hx rfl (hb hby own_d2_5) rfl rfl kt_) ?_
  have f3 := GS.2.2.2.2.2.2.2.1.ext O0.2
  obtain ⟨T4, X4, e4, st4⟩ := getF X2 hx hZ hown (host := "") (Or.inl (hw _ (List.mem_of_getElem? (i := 16) rfl))) Via.refl e2 f3 (g := (mkF m 6 #[.val (.ref wX), .val (.long (30 : Int64)), .second, .unset, .unset, .unset, .unset] [(.ref wX)])) rfl rfl (hb hby own_d2_6)
  refine own_by (T' := T4) (g' := (mkF m 9 #[.val (.ref wX), .val (.long (30 : Int64)), .second, .unset, .unset, .unset, .unset] [(.int (0 : Int32))])) st4 ?_
  refine own_by (T' := T4) (g' := (mkF m 10 #[.val (.ref wX), .val (.long (30 : Int64)), .second, .unset, .unset, .unset, .unset] [(.long (0 : Int32).toInt64)])) (fun _ kt_ => XS.i2l X4.here hx rfl (hb hby own_d2_9) rfl kt_) ?_
  refine own_by (T' := T4) (g' := (mkF m 11 #[.val (.ref wX), .val (.long (30 : Int64)), .second, .val (.long (0 : Int32).toInt64), .second, .unset, .unset] [])) (fun _ kt_ => XS.lstoreN X4.here hx rfl (hb hby own_d2_10) rfl (l' := #[.val (.ref wX), .val (.long (30 : Int64)), .second, .val (.long (0 : Int32).toInt64), .second, .unset, .unset]) rfl kt_) ?_
  refine own_by (T' := T4) (g' := (mkF m 12 #[.val (.ref wX), .val (.long (30 : Int64)), .second, .val (.long (0 : Int32).toInt64), .second, .unset, .unset] [(.long (30 : Int64))])) (fun _ kt_ => XS.lloadN X4.here hx rfl (hb hby own_d2_11) rfl kt_) ?_
  refine own_by (T' := T4) (g' := (mkF m 13 #[.val (.ref wX), .val (.long (30 : Int64)), .second, .val (.long (0 : Int32).toInt64), .second, .unset, .unset] [(.long (0 : Int64)), (.long (30 : Int64))])) (fun _ kt_ => XS.lconst X4.here hx rfl (hb hby own_d2_12) kt_) ?_
  refine own_by (T' := T4) (g' := (mkF m 14 #[.val (.ref wX), .val (.long (30 : Int64)), .second, .val (.long (0 : Int32).toInt64), .second, .unset, .unset] [(.int (XT.cmpL (30 : Int64) (0 : Int64)))])) (fun _ kt_ => XT.lcmp X4.here hx rfl (hb hby own_d2_13) rfl kt_) ?_
  refine own_by (T' := T4) (g' := (mkF m 27 #[.val (.ref wX), .val (.long (30 : Int64)), .second, .val (.long (0 : Int32).toInt64), .second, .unset, .unset] [])) (fun _ kt_ => XS.ifYes X4.here hx rfl (pc0 := 14) (pc' := 27) rfl (hb hby own_d2_14) rfl (XT.ll_ge_t (by decide)) (by decide) (by decide) kt_) ?_
  refine own_by (T' := T4) (g' := (mkF m 28 #[.val (.ref wX), .val (.long (30 : Int64)), .second, .val (.long (0 : Int32).toInt64), .second, .unset, .unset] [(.long (30 : Int64))])) (fun _ kt_ => XS.lloadN X4.here hx rfl (hb hby own_d2_27) rfl kt_) ?_
  refine own_by (T' := T4) (g' := (mkF m 31 #[.val (.ref wX), .val (.long (30 : Int64)), .second, .val (.long (0 : Int32).toInt64), .second, .unset, .unset] [(.int (1000 : Int32)), (.long (30 : Int64))])) (fun _ kt_ => XS.sipush X4.here hx rfl (hb hby own_d2_28) kt_) ?_
  obtain ⟨_, _, ⟨T5, L5, k5, n5⟩, -, X5, ⟨Lc5, hQ5, l5, y5, z5⟩, st5⟩ := Jvm.LawKit.callS X4 hx (y := (⟨"java/lang/Math", "multiplyExact", "(JI)J"⟩ : MethodName)) hown (mvT hZ (hw _ (List.mem_of_getElem? (i := 18) rfl))) (mvT hZ (hw _ (List.mem_of_getElem? (i := 19) rfl))) (mvT hZ (hw _ (List.mem_of_getElem? (i := 20) rfl))) (mvT hZ (hw _ (List.mem_of_getElem? (i := 21) rfl))) (by decide) (backOf (W := 0) (rmMulI l Z a0 hw [] wT wX vU hvU GS (30 : Int64) (1000 : Int32) h0 n0 (by omega) O0 (by decide +kernel)) hZ (hw _ (List.mem_of_getElem? (i := 21) rfl)) (hw _ (List.mem_of_getElem? (i := 20) rfl)) (by decide) (by decide)) (g := (mkF m 31 #[.val (.ref wX), .val (.long (30 : Int64)), .second, .val (.long (0 : Int32).toInt64), .second, .unset, .unset] [(.int (1000 : Int32)), (.long (30 : Int64))])) rfl (by rw [hml]; rfl) (argsL := [(.long (30 : Int64)), (.int (1000 : Int32))]) (rest := []) (lenOf own_pd_2 rfl) rfl (by show 2 * 0 + _ ≤ _; exact Nat.le_of_eq rfl) (hb hby own_d2_31) (fun _ _ => ⟨rfl, e4, (by decide : 0 + 0 ≤ _), (by decide : 0 + 0 ≤ _)⟩)
  dsimp only [Pt.U, Pt.locs, Pt.cells, Pt.slots] at X5 l5 y5 z5 st5 hQ5
  subst l5 y5 z5
  obtain ⟨rfl, N5q, e5⟩ := hQ5
  have N6 := Fr.app N0 N5q
  refine own_by (T' := T5) (g' := (mkF m 34 #[.val (.ref wX), .val (.long (30 : Int64)), .second, .val (.long (0 : Int32).toInt64), .second, .unset, .unset] [(.long ((30 : Int64) * (1000 : Int32).toInt64))])) st5 ?_
  refine own_by (T' := T5) (g' := (mkF m 36 #[.val (.ref wX), .val (.long (30 : Int64)), .second, .val (.long (0 : Int32).toInt64), .second, .val (.long ((30 : Int64) * (1000 : Int32).toInt64)), .second] [])) (fun _ kt_ => XS.lstore X5.here hx rfl (hb hby own_d2_34) rfl (l' := #[.val (.ref wX), .val (.long (30 : Int64)), .second, .val (.long (0 : Int32).toInt64), .second, .val (.long ((30 : Int64) * (1000 : Int32).toInt64)), .second]) rfl kt_) ?_
  refine own_by (T' := T5) (g' := (mkF m 38 #[.val (.ref wX), .val (.long (30 : Int64)), .second, .val (.long (0 : Int32).toInt64), .second, .val (.long ((30 : Int64) * (1000 : Int32).toInt64)), .second] [(.long ((30 : Int64) * (1000 : Int32).toInt64))])) (fun _ kt_ => XS.lload X5.here hx rfl (hb hby own_d2_36) rfl kt_) ?_
  refine own_by (T' := T5) (g' := (mkF m 39 #[.val (.ref wX), .val (.long (30 : Int64)), .second, .val (.long (0 : Int32).toInt64), .second, .val (.long ((30 : Int64) * (1000 : Int32).toInt64)), .second] [(.long (0 : Int32).toInt64), (.long ((30 : Int64) * (1000 : Int32).toInt64))])) (fun _ kt_ => XS.lloadN X5.here hx rfl (hb hby own_d2_38) rfl kt_) ?_
  refine own_by (T' := T5) (g' := (mkF m 42 #[.val (.ref wX), .val (.long (30 : Int64)), .second, .val (.long (0 : Int32).toInt64), .second, .val (.long ((30 : Int64) * (1000 : Int32).toInt64)), .second] [(.long (1000000 : Int64)), (.long (0 : Int32).toInt64), (.long ((30 : Int64) * (1000 : Int32).toInt64))])) (fun _ kt_ => X5.ldc2Long hx hown (mvT hZ (hw _ (List.mem_of_getElem? (i := 28) rfl))) (g := (mkF m 39 #[.val (.ref wX), .val (.long (30 : Int64)), .second, .val (.long (0 : Int32).toInt64), .second, .val (.long ((30 : Int64) * (1000 : Int32).toInt64)), .second] [(.long (0 : Int32).toInt64), (.long ((30 : Int64) * (1000 : Int32).toInt64))])) rfl (hb hby own_d2_39) _ kt_) ?_
  refine own_by (T' := T5) (g' := (mkF m 43 #[.val (.ref wX), .val (.long (30 : Int64)), .second, .val (.long (0 : Int32).toInt64), .second, .val (.long ((30 : Int64) * (1000 : Int32).toInt64)), .second] [(.long ((0 : Int32).toInt64 / (1000000 : Int64))), (.long ((30 : Int64) * (1000 : Int32).toInt64))])) (fun _ kt_ => XS.ldiv X5.here hx rfl (hb hby own_d2_42) rfl (by decide) kt_) ?_
  obtain ⟨_, _, ⟨T8, L8, k8, n8⟩, -, X8, ⟨Lc8, hQ8, l8, y8, z8⟩, st8⟩ := Jvm.LawKit.callS X5 hx (y := (⟨"java/lang/Math", "addExact", "(JJ)J"⟩ : MethodName)) hown (mvT hZ (hw _ (List.mem_of_getElem? (i := 29) rfl))) (mvT hZ (hw _ (List.mem_of_getElem? (i := 30) rfl))) (mvT hZ (hw _ (List.mem_of_getElem? (i := 20) rfl))) (mvT hZ (hw _ (List.mem_of_getElem? (i := 31) rfl))) (by decide) (backOf (W := 0) (rmAdd l Z a0 hw [] wT wX vU hvU GS ((30 : Int64) * (1000 : Int32).toInt64) ((0 : Int32).toInt64 / (1000000 : Int64)) h0 n0 (by omega) O0 (by decide +kernel)) hZ (hw _ (List.mem_of_getElem? (i := 31) rfl)) (hw _ (List.mem_of_getElem? (i := 20) rfl)) (by decide) (by decide)) (g := (mkF m 43 #[.val (.ref wX), .val (.long (30 : Int64)), .second, .val (.long (0 : Int32).toInt64), .second, .val (.long ((30 : Int64) * (1000 : Int32).toInt64)), .second] [(.long ((0 : Int32).toInt64 / (1000000 : Int64))), (.long ((30 : Int64) * (1000 : Int32).toInt64))])) rfl (by rw [hml]; rfl) (argsL := [(.long ((30 : Int64) * (1000 : Int32).toInt64)), (.long ((0 : Int32).toInt64 / (1000000 : Int64)))]) (rest := []) (lenOf own_pd_1 rfl) rfl (by show 2 * 0 + _ ≤ _; exact Nat.le_of_eq rfl) (hb hby own_d2_43) (fun _ _ => ⟨rfl, e5, (by decide : 0 + 0 ≤ _), (by decide : 0 + 0 ≤ _)⟩)
  dsimp only [Pt.U, Pt.locs, Pt.cells, Pt.slots] at X8 l8 y8 z8 st8 hQ8
  subst l8 y8 z8
  obtain ⟨rfl, N8q, e8⟩ := hQ8
  have N9 := Fr.app N6 N8q
  refine own_by (T' := T8) (g' := (mkF m 46 #[.val (.ref wX), .val (.long (30 : Int64)), .second, .val (.long (0 : Int32).toInt64), .second, .val (.long ((30 : Int64) * (1000 : Int32).toInt64)), .second] [(.long (((30 : Int64) * (1000 : Int32).toInt64) + ((0 : Int32).toInt64 / (1000000 : Int64))))])) st8 ?_
  refine own_by (T' := T8) (g' := (mkF m 48 #[.val (.ref wX), .val (.long (30 : Int64)), .second, .val (.long (0 : Int32).toInt64), .second, .val (.long (((30 : Int64) * (1000 : Int32).toInt64) + ((0 : Int32).toInt64 / (1000000 : Int64)))), .second] [])) (fun _ kt_ => XS.lstore X8.here hx rfl (hb hby own_d2_46) rfl (l' := #[.val (.ref wX), .val (.long (30 : Int64)), .second, .val (.long (0 : Int32).toInt64), .second, .val (.long (((30 : Int64) * (1000 : Int32).toInt64) + ((0 : Int32).toInt64 / (1000000 : Int64)))), .second]) rfl kt_) ?_
  refine own_by (T' := T8) (g' := (mkF m 50 #[.val (.ref wX), .val (.long (30 : Int64)), .second, .val (.long (0 : Int32).toInt64), .second, .val (.long (((30 : Int64) * (1000 : Int32).toInt64) + ((0 : Int32).toInt64 / (1000000 : Int64)))), .second] [(.long (((30 : Int64) * (1000 : Int32).toInt64) + ((0 : Int32).toInt64 / (1000000 : Int64))))])) (fun _ kt_ => XS.lload X8.here hx rfl (hb hby own_d2_48) rfl kt_) ?_
  have hr10 : (((30 : Int64) * (1000 : Int32).toInt64) + ((0 : Int32).toInt64 / (1000000 : Int64))) = (30000 : Int64) := by decide
  obtain ⟨fs11, hr11, hrun11, hended11, hW11, hsame11⟩ := X8.leave (v := some (.long (((30 : Int64) * (1000 : Int32).toInt64) + ((0 : Int32).toInt64 / (1000000 : Int64))))) (fun h => by rw [Bd.returns] at h; cases h)
  refine ⟨_, _, retOut X8 hx (t := .long) Bd.returns rfl (Or.inr (Or.inl ⟨rfl, rfl, _, rfl⟩)) (hb hby own_d2_50) hr11, hrun11, hended11, _, _, rfl, ?_, ⟨_, rfl⟩, hW11, hsame11.mono (by decide) (by decide)⟩
  show Q_rmDX Z wT wX vU hvU h0 n0 _ T8.heap _
  exact ⟨(congrArg (fun z => some (Value.long z)) hr10), N9, e8⟩
theorem own_d7_0 : decode jdk_2307_method_1_code 0 = .ok (.getstatic 3, 3) := by decide +kernel
theorem own_d7_3 : decode jdk_2307_method_1_code 3 = .ok (.areturn, 1) := by decide +kernel
theorem own_pn_java_time_Clock : plainName "java/time/Clock" = true := by first | (simp [plainName, overriddenIn]; done) | decide +kernel
theorem own_ef_rmUTC (m : MethodId)  : entryFrame m #[] 0 = mkF m 0 #[] [] := by first | (simp [entryFrame, mkF, argsToLocals, Value.category]; done) | rfl
def Q_rmUTC (Z : State) (wT : Addr) (wX : Addr) (vU : Value) (hvU : vU.isRef = true) (h0 : Heap) (n0 : Nat) (vv_ : Option Value) (hh_ : Heap) (LL_ : List Loc) : Prop := vv_ = some vU ∧ Fr n0 LL_ ∧ hh_ = h0
set_option maxRecDepth 65536 in
set_option maxHeartbeats 40000000 in
theorem rmUTC (l : Launch) (Z : State) (a0 : Array Value) (hw : ∀ d ∈ tables_1, d.before a0 Z = true) (ws : List Jvm.Cond) (wT : Addr) (wX : Addr) (vU : Value) (hvU : vU.isRef = true) (GS : Glob Z wT wX vU hvU)  (h0 : Heap) (n0 : Nat) (Z0 : n0 ≤ h0.size) (O0 : Old Z n0 h0) :
    MetFree l (⟨"java/time/Clock", "systemUTC", "()Ljava/time/Clock;"⟩ : MethodName) (head1 (Jvm.Cond.code (⟨"java/time/Clock", "systemUTC", "()Ljava/time/Clock;"⟩ : MethodName) jdk_2307_method_1_code 0 (some (.object "java/time/Clock")) :: ws) ({ frames := 0, cells := 0, slots := 0, locals := 0 } : Room)) (fun aa_ UU_ => aa_ = #[] ∧ Z.Warmed39 UU_.vm ∧ UU_.heap = h0) (fun _ _ _ _ _ => True) (fun _ UU_ oo_ UV_ => ∃ vv_ LL_, oo_ = .returned vv_ ∧ Q_rmUTC Z wT wX vU hvU h0 n0 vv_ UV_.heap LL_ ∧ FrameEnd UU_ oo_ UV_ LL_ ({ frames := 0, cells := 0, slots := 0, locals := 0 } : Room).cells ({ frames := 0, cells := 0, slots := 0, locals := 0 } : Room).slots) := by
  refine MetFree.of_bodySF (plainFor_of_name own_pn_java_time_Clock) hisR ?_
  intro p e s m args below meth c s₁ Bd hml0 hP hK
  obtain ⟨rfl, hZ, hh⟩ := hP
  have hx := Bd.exec
  have hby := Bd.bytes
  have hml : c.maxLocals = 0 := hml0
  have hown : s.vm.findClass "java/time/Clock" = some m.cls := findClass_of_methodNamed Bd.named
  have hnm := (name_of_methodNamed Bd.named Bd.method).1
  have X0 : Stand p l e ({ frames := 0, cells := 0, slots := 0, locals := 0 } : Room) s m #[] below meth c s₁ [] 0 0 := Stand.of_body Bd
  have e0 : s₁.heap = h0 := by rw [← hh, Bd.state]; rfl
  have N0 := Fr.nil n0
  have hn0 : Z.heap.size = n0 := O0.1
  have KT0 : Keep h0 h0 [] := Keep.refl _ _
  refine own_enter (Φ := fun oo_ UV_ => ∃ vv_ LL_, oo_ = .returned vv_ ∧ Q_rmUTC Z wT wX vU hvU h0 n0 vv_ UV_.heap LL_ ∧ FrameEnd s oo_ UV_ LL_ ({ frames := 0, cells := 0, slots := 0, locals := 0 } : Room).cells ({ frames := 0, cells := 0, slots := 0, locals := 0 } : Room).slots) (own_ef_rmUTC m ) ?_
  have f1 := GS.2.2.2.2.2.2.2.2.ext O0.2
  obtain ⟨T2, X2, e2, st2⟩ := getS2 X0 hx hZ hown (host := "") (Or.inl (hw _ (List.mem_of_getElem? (i := 38) rfl))) Via.refl e0 f1 (g := (mkF m 0 #[] [])) rfl (hb hby own_d7_0)
  refine own_by (T' := T2) (g' := (mkF m 3 #[] [vU])) st2 ?_
  obtain ⟨fs3, hr3, hrun3, hended3, hW3, hsame3⟩ := X2.leave (v := some vU) (fun h => by rw [Bd.returns] at h; cases h)
  refine ⟨_, _, retOut X2 hx (t := (.object "java/time/Clock")) Bd.returns (own_narR rfl hvU) (Or.inr (Or.inr (Or.inr (Or.inr ⟨rfl, rfl, hvU⟩)))) (hb hby own_d7_3) hr3, hrun3, hended3, _, _, rfl, ?_, ⟨_, rfl⟩, hW3, hsame3.mono (by decide) (by decide)⟩
  show Q_rmUTC Z wT wX vU hvU h0 n0 _ T2.heap _
  exact ⟨rfl, N0, e2⟩
theorem own_d8_0 : decode prog_4_method_2_code 0 = .ok (.aload_n 0, 1) := by decide +kernel
theorem own_d8_1 : decode prog_4_method_2_code 1 = .ok (.invokespecial 26, 3) := by decide +kernel
theorem own_d8_4 : decode prog_4_method_2_code 4 = .ok (.aload_n 0, 1) := by decide +kernel
theorem own_d8_5 : decode prog_4_method_2_code 5 = .ok (.iload_n 1, 1) := by decide +kernel
theorem own_d8_6 : decode prog_4_method_2_code 6 = .ok (.putfield 31, 3) := by decide +kernel
theorem own_d8_9 : decode prog_4_method_2_code 9 = .ok (.aload_n 0, 1) := by decide +kernel
theorem own_d8_10 : decode prog_4_method_2_code 10 = .ok (.lload_n 2, 1) := by decide +kernel
theorem own_d8_11 : decode prog_4_method_2_code 11 = .ok (.putfield 35, 3) := by decide +kernel
theorem own_d8_14 : decode prog_4_method_2_code 14 = .ok (.aload_n 0, 1) := by decide +kernel
theorem own_d8_15 : decode prog_4_method_2_code 15 = .ok (.lload 4, 2) := by decide +kernel
theorem own_d8_17 : decode prog_4_method_2_code 17 = .ok (.putfield 39, 3) := by decide +kernel
theorem own_d8_20 : decode prog_4_method_2_code 20 = .ok (.aload_n 0, 1) := by decide +kernel
theorem own_d8_21 : decode prog_4_method_2_code 21 = .ok (.aload 6, 2) := by decide +kernel
theorem own_d8_23 : decode prog_4_method_2_code 23 = .ok (.putfield 42, 3) := by decide +kernel
theorem own_d8_26 : decode prog_4_method_2_code 26 = .ok (.return_, 1) := by decide +kernel
theorem own_pn_com_example_fairlead_fairlead_core_BreakerPolicy : plainName "com/example/fairlead/fairlead/core/BreakerPolicy" = true := by first | (simp [plainName, overriddenIn]; done) | decide +kernel
theorem own_ef_rmI4 (m : MethodId) (x0 : Addr) (x1 : Int32) (x2 : Int64) (x3 : Int64) (x4 : Value) (hx4 : x4.isRef = true) : entryFrame m #[(.ref x0), (.int x1), (.long x2), (.long x3), x4] 7 = mkF m 0 #[.val (.ref x0), .val (.int x1), .val (.long x2), .second, .val (.long x3), .second, .val x4] [] := by
  rcases ref_cases hx4 with rfl | ⟨_, rfl⟩ <;> first | (simp [entryFrame, mkF, argsToLocals, Value.category]; done) | rfl
def Q_rmI4 (Z : State) (wT : Addr) (wX : Addr) (vU : Value) (hvU : vU.isRef = true) (a : Addr) (f : Int32) (t : Int64) (q : Int64) (vc : Value) (hvc : vc.isRef = true) (h0 : Heap) (n0 : Nat) (vv_ : Option Value) (hh_ : Heap) (LL_ : List Loc) : Prop := vv_ = none ∧ Fr n0 LL_ ∧ Keep h0 hh_ [a] ∧ Fld Z hh_ a "com/example/fairlead/fairlead/core/BreakerPolicy" "tripFailures" "I" (.int f) ∧ Fld Z hh_ a "com/example/fairlead/fairlead/core/BreakerPolicy" "tripMillis" "J" (.long t) ∧ Fld Z hh_ a "com/example/fairlead/fairlead/core/BreakerPolicy" "maxTripMillis" "J" (.long q) ∧ Fld Z hh_ a "com/example/fairlead/fairlead/core/BreakerPolicy" "clock" "Ljava/time/Clock;" vc
set_option maxRecDepth 65536 in
set_option maxHeartbeats 40000000 in
theorem rmI4 (l : Launch) (Z : State) (a0 : Array Value) (hw : ∀ d ∈ tables_1, d.before a0 Z = true) (ws : List Jvm.Cond) (wT : Addr) (wX : Addr) (vU : Value) (hvU : vU.isRef = true) (GS : Glob Z wT wX vU hvU) (a : Addr) (f : Int32) (t : Int64) (q : Int64) (vc : Value) (hvc : vc.isRef = true) (h0 : Heap) (n0 : Nat) (Z0 : n0 ≤ h0.size) (O0 : Old Z n0 h0) (E_a : Exa Z h0 a "com/example/fairlead/fairlead/core/BreakerPolicy") (g_a : n0 ≤ a) (F_tripFailures : Fld Z h0 a "com/example/fairlead/fairlead/core/BreakerPolicy" "tripFailures" "I" (.int (0 : Int32))) (F_tripMillis : Fld Z h0 a "com/example/fairlead/fairlead/core/BreakerPolicy" "tripMillis" "J" (.long (0 : Int64))) (F_maxTripMillis : Fld Z h0 a "com/example/fairlead/fairlead/core/BreakerPolicy" "maxTripMillis" "J" (.long (0 : Int64))) (F_clock : Fld Z h0 a "com/example/fairlead/fairlead/core/BreakerPolicy" "clock" "Ljava/time/Clock;" .null) :
    MetFree l (⟨"com/example/fairlead/fairlead/core/BreakerPolicy", "<init>", "(IJJLjava/time/Clock;)V"⟩ : MethodName) (head1 (Jvm.Cond.code (⟨"com/example/fairlead/fairlead/core/BreakerPolicy", "<init>", "(IJJLjava/time/Clock;)V"⟩ : MethodName) prog_4_method_2_code 7 none :: ws) ({ frames := 1, cells := 0, slots := 0, locals := 12 } : Room)) (fun aa_ UU_ => aa_ = #[(.ref a), (.int f), (.long t), (.long q), vc] ∧ Z.Warmed39 UU_.vm ∧ UU_.heap = h0) (fun _ _ _ _ _ => True) (fun _ UU_ oo_ UV_ => ∃ vv_ LL_, oo_ = .returned vv_ ∧ Q_rmI4 Z wT wX vU hvU a f t q vc hvc h0 n0 vv_ UV_.heap LL_ ∧ FrameEnd UU_ oo_ UV_ LL_ ({ frames := 1, cells := 0, slots := 0, locals := 12 } : Room).cells ({ frames := 1, cells := 0, slots := 0, locals := 12 } : Room).slots) := by
  refine MetFree.of_bodySF (plainFor_of_name own_pn_com_example_fairlead_fairlead_core_BreakerPolicy) hisR ?_
  intro p e s m args below meth c s₁ Bd hml0 hP hK
  obtain ⟨rfl, hZ, hh⟩ := hP
  have hx := Bd.exec
  have hby := Bd.bytes
  have hml : c.maxLocals = 7 := hml0
  have hown : s.vm.findClass "com/example/fairlead/fairlead/core/BreakerPolicy" = some m.cls := findClass_of_methodNamed Bd.named
  have hnm := (name_of_methodNamed Bd.named Bd.method).1
  have X0 : Stand p l e ({ frames := 1, cells := 0, slots := 0, locals := 12 } : Room) s m #[(.ref a), (.int f), (.long t), (.long q), vc] below meth c s₁ [] 0 0 := Stand.of_body Bd
  have e0 : s₁.heap = h0 := by rw [← hh, Bd.state]; rfl
  have N0 := Fr.nil n0
  have hn0 : Z.heap.size = n0 := O0.1
  have KT0 : Keep h0 h0 [a] := Keep.refl _ _
  refine own_enter (Φ := fun oo_ UV_ => ∃ vv_ LL_, oo_ = .returned vv_ ∧ Q_rmI4 Z wT wX vU hvU a f t q vc hvc h0 n0 vv_ UV_.heap LL_ ∧ FrameEnd s oo_ UV_ LL_ ({ frames := 1, cells := 0, slots := 0, locals := 12 } : Room).cells ({ frames := 1, cells := 0, slots := 0, locals := 12 } : Room).slots) (own_ef_rmI4 m a f t q vc hvc) ?_
  refine own_by (T' := s₁) (g' := (mkF m 1 #[.val (.ref a), .val (.int f), .val (.long t), .second, .val (.long q), .second, .val vc] [(.ref a)])) (fun _ kt_ => XS.aloadN X0.here hx rfl (hb hby own_d8_0) rfl rfl kt_) ?_
  obtain ⟨T1, X1, e1, st1⟩ := initO X0 hx hZ hown (hw _ (List.mem_of_getElem? (i := 44) rfl)) (hw _ (List.mem_of_getElem? (i := 45) rfl)) (hw _ (List.mem_of_getElem? (i := 46) rfl)) e0 (g := (mkF m 1 #[.val (.ref a), .val (.int f), .val (.long t), .second, .val (.long q), .second, .val vc] [(.ref a)])) rfl (by rw [hml]; rfl) rfl (hb hby own_d8_1) (by decide) (W := 0) (by show 2 * 0 + _ ≤ _; exact Nat.le_of_eq rfl) (by decide)
  refine own_by (T' := T1) (g' := (mkF m 4 #[.val (.ref a), .val (.int f), .val (.long t), .second, .val (.long q), .second, .val vc] [])) st1 ?_
  refine own_by (T' := T1) (g' := (mkF m 5 #[.val (.ref a), .val (.int f), .val (.long t), .second, .val (.long q), .second, .val vc] [(.ref a)])) (fun _ kt_ => XS.aloadN X1.here hx rfl (hb hby own_d8_4) rfl rfl kt_) ?_
  refine own_by (T' := T1) (g' := (mkF m 6 #[.val (.ref a), .val (.int f), .val (.long t), .second, .val (.long q), .second, .val vc] [(.int f), (.ref a)])) (fun _ kt_ => XS.iloadN X1.here hx rfl (hb hby own_d8_5) rfl kt_) ?_
  obtain ⟨T2, h2, X2, e2, W2, st2⟩ := putF X1 hx hZ hown (host := "") (Or.inl (hw _ (List.mem_of_getElem? (i := 47) rfl))) Via.refl e1 F_tripFailures E_a (Or.inr ⟨(hw _ (List.mem_of_getElem? (i := 48) rfl)), rfl, hnm⟩) (hw _ (List.mem_of_getElem? (i := 1) rfl)) (ty := .int) (by decide) rfl rfl (g := (mkF m 6 #[.val (.ref a), .val (.int f), .val (.long t), .second, .val (.long q), .second, .val vc] [(.int f), (.ref a)])) rfl rfl (hb hby own_d8_6)
  have K3 : Keep h0 h2 [a] := Keep.of_wr W2
  have zzK3 : h0.size ≤ h2.size := K3.1
  have oo4 : Old Z n0 h2 := O0.keep K3 (allS (by omega : n0 ≤ a) all0)
  have kt5 : Keep h0 h2 [a] := KT0.trans K3 (allS (Or.inl (List.mem_of_getElem? (i := 0) rfl)) all0)
  have f6 : Fld Z h2 a "com/example/fairlead/fairlead/core/BreakerPolicy" "tripFailures" "I" (.int f) := F_tripFailures.same W2
  have f7 : Fld Z h2 a "com/example/fairlead/fairlead/core/BreakerPolicy" "tripMillis" "J" (.long (0 : Int64)) := F_tripMillis.other W2 (Or.inr (slot_ne (Or.inr (hw _ (List.mem_of_getElem? (i := 50) rfl))) (Or.inr (hw _ (List.mem_of_getElem? (i := 48) rfl))) (by decide) (t := .long) (t' := .int) (by decide) (by decide)))
  have f8 : Fld Z h2 a "com/example/fairlead/fairlead/core/BreakerPolicy" "maxTripMillis" "J" (.long (0 : Int64)) := F_maxTripMillis.other W2 (Or.inr (slot_ne (Or.inr (hw _ (List.mem_of_getElem? (i := 52) rfl))) (Or.inr (hw _ (List.mem_of_getElem? (i := 48) rfl))) (by decide) (t := .long) (t' := .int) (by decide) (by decide)))
  have f9 : Fld Z h2 a "com/example/fairlead/fairlead/core/BreakerPolicy" "clock" "Ljava/time/Clock;" .null := F_clock.other W2 (Or.inr (slot_ne (Or.inr (hw _ (List.mem_of_getElem? (i := 54) rfl))) (Or.inr (hw _ (List.mem_of_getElem? (i := 48) rfl))) (by decide) (t := (.object "java/time/Clock")) (t' := .int) (by decide) (by decide)))
  have N10 := Fr.snoc X2 N0 (by omega : n0 ≤ a)
  refine own_by (T' := T2) (g' := (mkF m 9 #[.val (.ref a), .val (.int f), .val (.long t), .second, .val (.long q), .second, .val vc] [])) st2 ?_
  refine own_by (T' := T2) (g' := (mkF m 10 #[.val (.ref a), .val (.int f), .val (.long t), .second, .val (.long q), .second, .val vc] [(.ref a)])) (fun _ kt_ => XS.aloadN X2.here hx rfl (hb hby own_d8_9) rfl rfl kt_) ?_
  refine own_by (T' := T2) (g' := (mkF m 11 #[.val (.ref a), .val (.int f), .val (.long t), .second, .val (.long q), .second, .val vc] [(.long t), (.ref a)])) (fun _ kt_ => XS.lloadN X2.here hx rfl (hb hby own_d8_10) rfl kt_) ?_
  have f11 : Exa Z h2 a "com/example/fairlead/fairlead/core/BreakerPolicy" := (E_a.keep K3)
  obtain ⟨T12, h12, X12, e12, W12, st12⟩ := putF X2 hx hZ hown (host := "") (Or.inl (hw _ (List.mem_of_getElem? (i := 49) rfl))) Via.refl e2 f7 f11 (Or.inr ⟨(hw _ (List.mem_of_getElem? (i := 50) rfl)), rfl, hnm⟩) (hw _ (List.mem_of_getElem? (i := 1) rfl)) (ty := .long) (by decide) rfl rfl (g := (mkF m 11 #[.val (.ref a), .val (.int f), .val (.long t), .second, .val (.long q), .second, .val vc] [(.long t), (.ref a)])) rfl rfl (hb hby own_d8_11)
  have K13 : Keep h2 h12 [a] := Keep.of_wr W12
  have zzK13 : h2.size ≤ h12.size := K13.1
  have oo14 : Old Z n0 h12 := oo4.keep K13 (allS (by omega : n0 ≤ a) all0)
  have kt15 : Keep h0 h12 [a] := kt5.trans K13 (allS (Or.inl (List.mem_of_getElem? (i := 0) rfl)) all0)
  have f16 : Fld Z h12 a "com/example/fairlead/fairlead/core/BreakerPolicy" "tripFailures" "I" (.int f) := f6.other W12 (Or.inr (slot_ne (Or.inr (hw _ (List.mem_of_getElem? (i := 48) rfl))) (Or.inr (hw _ (List.mem_of_getElem? (i := 50) rfl))) (by decide) (t := .int) (t' := .long) (by decide) (by decide)))
  have f17 : Fld Z h12 a "com/example/fairlead/fairlead/core/BreakerPolicy" "tripMillis" "J" (.long t) := f7.same W12
  have f18 : Fld Z h12 a "com/example/fairlead/fairlead/core/BreakerPolicy" "maxTripMillis" "J" (.long (0 : Int64)) := f8.other W12 (Or.inr (slot_ne (Or.inr (hw _ (List.mem_of_getElem? (i := 52) rfl))) (Or.inr (hw _ (List.mem_of_getElem? (i := 50) rfl))) (by decide) (t := .long) (t' := .long) (by decide) (by decide)))
  have f19 : Fld Z h12 a "com/example/fairlead/fairlead/core/BreakerPolicy" "clock" "Ljava/time/Clock;" .null := f9.other W12 (Or.inr (slot_ne (Or.inr (hw _ (List.mem_of_getElem? (i := 54) rfl))) (Or.inr (hw _ (List.mem_of_getElem? (i := 50) rfl))) (by decide) (t := (.object "java/time/Clock")) (t' := .long) (by decide) (by decide)))
  have N20 := Fr.snoc X12 N10 (by omega : n0 ≤ a)
  refine own_by (T' := T12) (g' := (mkF m 14 #[.val (.ref a), .val (.int f), .val (.long t), .second, .val (.long q), .second, .val vc] [])) st12 ?_
  refine own_by (T' := T12) (g' := (mkF m 15 #[.val (.ref a), .val (.int f), .val (.long t), .second, .val (.long q), .second, .val vc] [(.ref a)])) (fun _ kt_ => XS.aloadN X12.here hx rfl (hb hby own_d8_14) rfl rfl kt_) ?_
  refine own_by (T' := T12) (g' := (mkF m 17 #[.val (.ref a), .val (.int f), .val (.long t), .second, .val (.long q), .second, .val vc] [(.long q), (.ref a)])) (fun _ kt_ => XS.lload X12.here hx rfl (hb hby own_d8_15) rfl kt_) ?_
  have f21 : Exa Z h12 a "com/example/fairlead/fairlead/core/BreakerPolicy" := (f11.keep K13)
  obtain ⟨T22, h22, X22, e22, W22, st22⟩ := putF X12 hx hZ hown (host := "") (Or.inl (hw _ (List.mem_of_getElem? (i := 51) rfl))) Via.refl e12 f18 f21 (Or.inr ⟨(hw _ (List.mem_of_getElem? (i := 52) rfl)), rfl, hnm⟩) (hw _ (List.mem_of_getElem? (i := 1) rfl)) (ty := .long) (by decide) rfl rfl (g := (mkF m 17 #[.val (.ref a), .val (.int f), .val (.long t), .second, .val (.long q), .second, .val vc] [(.long q), (.ref a)])) rfl rfl (hb hby own_d8_17)
  have K23 : Keep h12 h22 [a] := Keep.of_wr W22
  have zzK23 : h12.size ≤ h22.size := K23.1
  have oo24 : Old Z n0 h22 := oo14.keep K23 (allS (by omega : n0 ≤ a) all0)
  have kt25 : Keep h0 h22 [a] := kt15.trans K23 (allS (Or.inl (List.mem_of_getElem? (i := 0) rfl)) all0)
  have f26 : Fld Z h22 a "com/example/fairlead/fairlead/core/BreakerPolicy" "tripFailures" "I" (.int f) := f16.other W22 (Or.inr (slot_ne (Or.inr (hw _ (List.mem_of_getElem? (i := 48) rfl))) (Or.inr (hw _ (List.mem_of_getElem? (i := 52) rfl))) (by decide) (t := .int) (t' := .long) (by decide) (by decide)))
  have f27 : Fld Z h22 a "com/example/fairlead/fairlead/core/BreakerPolicy" "tripMillis" "J" (.long t) := f17.other W22 (Or.inr (slot_ne (Or.inr (hw _ (List.mem_of_getElem? (i := 50) rfl))) (Or.inr (hw _ (List.mem_of_getElem? (i := 52) rfl))) (by decide) (t := .long) (t' := .long) (by decide) (by decide)))
  have f28 : Fld Z h22 a "com/example/fairlead/fairlead/core/BreakerPolicy" "maxTripMillis" "J" (.long q) := f18.same W22
  have f29 : Fld Z h22 a "com/example/fairlead/fairlead/core/BreakerPolicy" "clock" "Ljava/time/Clock;" .null := f19.other W22 (Or.inr (slot_ne (Or.inr (hw _ (List.mem_of_getElem? (i := 54) rfl))) (Or.inr (hw _ (List.mem_of_getElem? (i := 52) rfl))) (by decide) (t := (.object "java/time/Clock")) (t' := .long) (by decide) (by decide)))
  have N30 := Fr.snoc X22 N20 (by omega : n0 ≤ a)
  refine own_by (T' := T22) (g' := (mkF m 20 #[.val (.ref a), .val (.int f), .val (.long t), .second, .val (.long q), .second, .val vc] [])) st22 ?_
  refine own_by (T' := T22) (g' := (mkF m 21 #[.val (.ref a), .val (.int f), .val (.long t), .second, .val (.long q), .second, .val vc] [(.ref a)])) (fun _ kt_ => XS.aloadN X22.here hx rfl (hb hby own_d8_20) rfl rfl kt_) ?_
  refine own_by (T' := T22) (g' := (mkF m 23 #[.val (.ref a), .val (.int f), .val (.long t), .second, .val (.long q), .second, .val vc] [vc, (.ref a)])) (fun _ kt_ => XS.aload X22.here hx rfl (hb hby own_d8_21) rfl hvc kt_) ?_
  have f31 : Exa Z h22 a "com/example/fairlead/fairlead/core/BreakerPolicy" := (f21.keep K23)
  obtain ⟨T32, h32, X32, e32, W32, st32⟩ := putF X22 hx hZ hown (host := "") (Or.inl (hw _ (List.mem_of_getElem? (i := 53) rfl))) Via.refl e22 f29 f31 (Or.inr ⟨(hw _ (List.mem_of_getElem? (i := 54) rfl)), rfl, hnm⟩) (hw _ (List.mem_of_getElem? (i := 1) rfl)) (ty := (.object "java/time/Clock")) (by decide) (own_narR rfl hvc) (own_fitR rfl hvc) (g := (mkF m 23 #[.val (.ref a), .val (.int f), .val (.long t), .second, .val (.long q), .second, .val vc] [vc, (.ref a)])) rfl rfl (hb hby own_d8_23)
  have K33 : Keep h22 h32 [a] := Keep.of_wr W32
  have zzK33 : h22.size ≤ h32.size := K33.1
  have oo34 : Old Z n0 h32 := oo24.keep K33 (allS (by omega : n0 ≤ a) all0)
  have kt35 : Keep h0 h32 [a] := kt25.trans K33 (allS (Or.inl (List.mem_of_getElem? (i := 0) rfl)) all0)
  have f36 : Fld Z h32 a "com/example/fairlead/fairlead/core/BreakerPolicy" "tripFailures" "I" (.int f) := f26.other W32 (Or.inr (slot_ne (Or.inr (hw _ (List.mem_of_getElem? (i := 48) rfl))) (Or.inr (hw _ (List.mem_of_getElem? (i := 54) rfl))) (by decide) (t := .int) (t' := (.object "java/time/Clock")) (by decide) (by decide)))
  have f37 : Fld Z h32 a "com/example/fairlead/fairlead/core/BreakerPolicy" "tripMillis" "J" (.long t) := f27.other W32 (Or.inr (slot_ne (Or.inr (hw _ (List.mem_of_getElem? (i := 50) rfl))) (Or.inr (hw _ (List.mem_of_getElem? (i := 54) rfl))) (by decide) (t := .long) (t' := (.object "java/time/Clock")) (by decide) (by decide)))
  have f38 : Fld Z h32 a "com/example/fairlead/fairlead/core/BreakerPolicy" "maxTripMillis" "J" (.long q) := f28.other W32 (Or.inr (slot_ne (Or.inr (hw _ (List.mem_of_getElem? (i := 52) rfl))) (Or.inr (hw _ (List.mem_of_getElem? (i := 54) rfl))) (by decide) (t := .long) (t' := (.object "java/time/Clock")) (by decide) (by decide)))
  have f39 : Fld Z h32 a "com/example/fairlead/fairlead/core/BreakerPolicy" "clock" "Ljava/time/Clock;" vc := f29.same W32
  have N40 := Fr.snoc X32 N30 (by omega : n0 ≤ a)
  refine own_by (T' := T32) (g' := (mkF m 26 #[.val (.ref a), .val (.int f), .val (.long t), .second, .val (.long q), .second, .val vc] [])) st32 ?_
  obtain ⟨fs41, hr41, hrun41, hended41, hW41, hsame41⟩ := X32.leave (v := none) (fun _ => rfl)
  refine ⟨_, _, X32.returnOut hx Bd.returns (hb hby own_d8_26) hr41, hrun41, hended41, _, _, rfl, ?_, ⟨_, rfl⟩, hW41, hsame41.mono (by decide) (by decide)⟩
  show Q_rmI4 Z wT wX vU hvU a f t q vc hvc h0 n0 _ T32.heap _
  rw [e32]
  exact ⟨rfl, N40, kt35, f36, f37, f38, f39⟩
theorem own_pd_3 : parseMethodDescriptor "()J" = some ⟨[], some .long⟩ := by decide +kernel
theorem own_pd_4 : parseMethodDescriptor "()Ljava/time/Clock;" = some ⟨[], some (.object "java/time/Clock")⟩ := by decide +kernel
theorem own_pd_5 : parseMethodDescriptor "(IJJLjava/time/Clock;)V" = some ⟨[.int, .long, .long, (.object "java/time/Clock")], none⟩ := by decide +kernel
theorem own_d1_0 : decode prog_4_method_1_code 0 = .ok (.aload_n 0, 1) := by decide +kernel
theorem own_d1_1 : decode prog_4_method_1_code 1 = .ok (.iconst 3, 1) := by decide +kernel
theorem own_d1_2 : decode prog_4_method_1_code 2 = .ok (.getstatic 3, 3) := by decide +kernel
theorem own_d1_5 : decode prog_4_method_1_code 5 = .ok (.invokevirtual 7, 3) := by decide +kernel
theorem own_d1_8 : decode prog_4_method_1_code 8 = .ok (.getstatic 13, 3) := by decide +kernel
theorem own_d1_11 : decode prog_4_method_1_code 11 = .ok (.invokevirtual 7, 3) := by decide +kernel
theorem own_d1_14 : decode prog_4_method_1_code 14 = .ok (.invokestatic 16, 3) := by decide +kernel
theorem own_d1_17 : decode prog_4_method_1_code 17 = .ok (.invokespecial 22, 3) := by decide +kernel
theorem own_d1_20 : decode prog_4_method_1_code 20 = .ok (.return_, 1) := by decide +kernel
theorem own_ef_rmI0 (m : MethodId) (x0 : Addr) : entryFrame m #[(.ref x0)] 1 = mkF m 0 #[.val (.ref x0)] [] := by first | (simp [entryFrame, mkF, argsToLocals, Value.category]; done) | rfl
def Q_rmI0 (Z : State) (wT : Addr) (wX : Addr) (vU : Value) (hvU : vU.isRef = true) (a : Addr) (h0 : Heap) (n0 : Nat) (vv_ : Option Value) (hh_ : Heap) (LL_ : List Loc) : Prop := vv_ = none ∧ Fr n0 LL_ ∧ Keep h0 hh_ [a] ∧ Fld Z hh_ a "com/example/fairlead/fairlead/core/BreakerPolicy" "tripFailures" "I" (.int (3 : Int32)) ∧ Fld Z hh_ a "com/example/fairlead/fairlead/core/BreakerPolicy" "tripMillis" "J" (.long (10000 : Int64)) ∧ Fld Z hh_ a "com/example/fairlead/fairlead/core/BreakerPolicy" "maxTripMillis" "J" (.long (30000 : Int64)) ∧ Fld Z hh_ a "com/example/fairlead/fairlead/core/BreakerPolicy" "clock" "Ljava/time/Clock;" vU
set_option maxRecDepth 65536 in
set_option maxHeartbeats 40000000 in
theorem rmI0 (l : Launch) (Z : State) (a0 : Array Value) (hw : ∀ d ∈ tables_1, d.before a0 Z = true) (ws : List Jvm.Cond) (wT : Addr) (wX : Addr) (vU : Value) (hvU : vU.isRef = true) (GS : Glob Z wT wX vU hvU) (a : Addr) (h0 : Heap) (n0 : Nat) (Z0 : n0 ≤ h0.size) (O0 : Old Z n0 h0) (E_a : Exa Z h0 a "com/example/fairlead/fairlead/core/BreakerPolicy") (g_a : n0 ≤ a) (F_tripFailures : Fld Z h0 a "com/example/fairlead/fairlead/core/BreakerPolicy" "tripFailures" "I" (.int (0 : Int32))) (F_tripMillis : Fld Z h0 a "com/example/fairlead/fairlead/core/BreakerPolicy" "tripMillis" "J" (.long (0 : Int64))) (F_maxTripMillis : Fld Z h0 a "com/example/fairlead/fairlead/core/BreakerPolicy" "maxTripMillis" "J" (.long (0 : Int64))) (F_clock : Fld Z h0 a "com/example/fairlead/fairlead/core/BreakerPolicy" "clock" "Ljava/time/Clock;" .null) :
    MetFree l (⟨"com/example/fairlead/fairlead/core/BreakerPolicy", "<init>", "()V"⟩ : MethodName) (head1 (Jvm.Cond.code (⟨"com/example/fairlead/fairlead/core/BreakerPolicy", "<init>", "()V"⟩ : MethodName) prog_4_method_1_code 1 none :: ws) ({ frames := 4, cells := 0, slots := 0, locals := 70 } : Room)) (fun aa_ UU_ => aa_ = #[(.ref a)] ∧ Z.Warmed39 UU_.vm ∧ UU_.heap = h0) (fun _ _ _ _ _ => True) (fun _ UU_ oo_ UV_ => ∃ vv_ LL_, oo_ = .returned vv_ ∧ Q_rmI0 Z wT wX vU hvU a h0 n0 vv_ UV_.heap LL_ ∧ FrameEnd UU_ oo_ UV_ LL_ ({ frames := 4, cells := 0, slots := 0, locals := 70 } : Room).cells ({ frames := 4, cells := 0, slots := 0, locals := 70 } : Room).slots) := by
  refine MetFree.of_bodySF (plainFor_of_name own_pn_com_example_fairlead_fairlead_core_BreakerPolicy) hisR ?_
  intro p e s m args below meth c s₁ Bd hml0 hP hK
  obtain ⟨rfl, hZ, hh⟩ := hP
  have hx := Bd.exec
  have hby := Bd.bytes
  have hml : c.maxLocals = 1 := hml0
  have hown : s.vm.findClass "com/example/fairlead/fairlead/core/BreakerPolicy" = some m.cls := findClass_of_methodNamed Bd.named
  have hnm := (name_of_methodNamed Bd.named Bd.method).1
  have X0 : Stand p l e ({ frames := 4, cells := 0, slots := 0, locals := 70 } : Room) s m #[(.ref a)] below meth c s₁ [] 0 0 := Stand.of_body Bd
  have e0 : s₁.heap = h0 := by rw [← hh, Bd.state]; rfl
  have N0 := Fr.nil n0
  have hn0 : Z.heap.size = n0 := O0.1
  have KT0 : Keep h0 h0 [a] := Keep.refl _ _
  refine own_enter (Φ := fun oo_ UV_ => ∃ vv_ LL_, oo_ = .returned vv_ ∧ Q_rmI0 Z wT wX vU hvU a h0 n0 vv_ UV_.heap LL_ ∧ FrameEnd s oo_ UV_ LL_ ({ frames := 4, cells := 0, slots := 0, locals := 70 } : Room).cells ({ frames := 4, cells := 0, slots := 0, locals := 70 } : Room).slots) (own_ef_rmI0 m a) ?_
  refine own_by (T' := s₁) (g' := (mkF m 1 #[.val (.ref a)] [(.ref a)])) (fun _ kt_ => XS.aloadN X0.here hx rfl (hb hby own_d1_0) rfl rfl kt_) ?_
  refine own_by (T' := s₁) (g' := (mkF m 2 #[.val (.ref a)] [(.int (3 : Int32)), (.ref a)])) (fun _ kt_ => XS.iconst X0.here hx rfl (hb hby own_d1_1) kt_) ?_
  have f1 := GS.1.ext O0.2
  obtain ⟨T2, X2, e2, st2⟩ := getS2 X0 hx hZ hown (host := "") (Or.inl (hw _ (List.mem_of_getElem? (i := 6) rfl))) Via.refl e0 f1 (g := (mkF m 2 #[.val (.ref a)] [(.int (3 : Int32)), (.ref a)])) rfl (hb hby own_d1_2)
  refine own_by (T' := T2) (g' := (mkF m 5 #[.val (.ref a)] [(.ref wT), (.int (3 : Int32)), (.ref a)])) st2 ?_
  have f4 := GS.2.1.ext O0.2
  obtain ⟨cq3, kq3, q3a, q3b, q3c⟩ := isOf hZ e2 f4
  obtain ⟨_, _, ⟨T3, L3, k3, n3⟩, -, X3, ⟨Lc3, hQ3, l3, y3, z3⟩, st3⟩ := X2.virtualBack hx (y := (⟨"java/time/Duration", "toMillis", "()J"⟩ : MethodName)) (z := (⟨"java/time/Duration", "toMillis", "()J"⟩ : MethodName)) hown (mvT hZ (hw _ (List.mem_of_getElem? (i := 8) rfl))) (mvT hZ (hw _ (List.mem_of_getElem? (i := 9) rfl))) (notFace_of_selects (args := #[]) (mvT hZ (hw _ (List.mem_of_getElem? (i := 11) rfl)))) (mvT hZ (hw _ (List.mem_of_getElem? (i := 11) rfl))) (mvT hZ (hw _ (List.mem_of_getElem? (i := 10) rfl))) (by decide) (backOf (W := 2) (rmDT l Z a0 hw [] wT wX vU hvU GS  h0 n0 (by omega) O0 ) hZ (hw _ (List.mem_of_getElem? (i := 13) rfl)) (hw _ (List.mem_of_getElem? (i := 12) rfl)) (by decide) (by decide)) q3a q3c (g := (mkF m 5 #[.val (.ref a)] [(.ref wT), (.int (3 : Int32)), (.ref a)])) rfl (by rw [hml]; rfl) (Steps.refl _) (argsL := []) (rest := [(.int (3 : Int32)), (.ref a)]) (lenOf own_pd_3 rfl) rfl (by show 2 * 0 + _ ≤ _; exact Nat.le_of_eq rfl) (hb hby own_d1_5) (fun _ _ => ⟨rfl, e2, (by decide : 0 + 0 ≤ _), (by decide : 0 + 0 ≤ _)⟩)
  dsimp only [Pt.U, Pt.locs, Pt.cells, Pt.slots] at X3 l3 y3 z3 st3 hQ3
  subst l3 y3 z3
  obtain ⟨rfl, N3q, e3⟩ := hQ3
  have N5 := Fr.app N0 N3q
  refine own_by (T' := T3) (g' := (mkF m 8 #[.val (.ref a)] [(.long (10000 : Int64)), (.int (3 : Int32)), (.ref a)])) (fun _ kt_ => st3.trans kt_) ?_
  have f6 := GS.2.2.2.2.1.ext O0.2
  obtain ⟨T7, X7, e7, st7⟩ := getS2 X3 hx hZ hown (host := "") (Or.inl (hw _ (List.mem_of_getElem? (i := 32) rfl))) Via.refl e3 f6 (g := (mkF m 8 #[.val (.ref a)] [(.long (10000 : Int64)), (.int (3 : Int32)), (.ref a)])) rfl (hb hby own_d1_8)
  refine own_by (T' := T7) (g' := (mkF m 11 #[.val (.ref a)] [(.ref wX), (.long (10000 : Int64)), (.int (3 : Int32)), (.ref a)])) st7 ?_
  have f9 := GS.2.2.2.2.2.1.ext O0.2
  obtain ⟨cq8, kq8, q8a, q8b, q8c⟩ := isOf hZ e7 f9
  obtain ⟨_, _, ⟨T8, L8, k8, n8⟩, -, X8, ⟨Lc8, hQ8, l8, y8, z8⟩, st8⟩ := X7.virtualBack hx (y := (⟨"java/time/Duration", "toMillis", "()J"⟩ : MethodName)) (z := (⟨"java/time/Duration", "toMillis", "()J"⟩ : MethodName)) hown (mvT hZ (hw _ (List.mem_of_getElem? (i := 8) rfl))) (mvT hZ (hw _ (List.mem_of_getElem? (i := 9) rfl))) (notFace_of_selects (args := #[]) (mvT hZ (hw _ (List.mem_of_getElem? (i := 11) rfl)))) (mvT hZ (hw _ (List.mem_of_getElem? (i := 11) rfl))) (mvT hZ (hw _ (List.mem_of_getElem? (i := 10) rfl))) (by decide) (backOf (W := 4) (rmDX l Z a0 hw [] wT wX vU hvU GS  h0 n0 (by omega) O0 ) hZ (hw _ (List.mem_of_getElem? (i := 13) rfl)) (hw _ (List.mem_of_getElem? (i := 12) rfl)) (by decide) (by decide)) q8a q8c (g := (mkF m 11 #[.val (.ref a)] [(.ref wX), (.long (10000 : Int64)), (.int (3 : Int32)), (.ref a)])) rfl (by rw [hml]; rfl) (Steps.refl _) (argsL := []) (rest := [(.long (10000 : Int64)), (.int (3 : Int32)), (.ref a)]) (lenOf own_pd_3 rfl) rfl (by show 2 * 0 + _ ≤ _; exact Nat.le_of_eq rfl) (hb hby own_d1_11) (fun _ _ => ⟨rfl, e7, (by decide : 0 + 0 ≤ _), (by decide : 0 + 0 ≤ _)⟩)
  dsimp only [Pt.U, Pt.locs, Pt.cells, Pt.slots] at X8 l8 y8 z8 st8 hQ8
  subst l8 y8 z8
  obtain ⟨rfl, N8q, e8⟩ := hQ8
  have N10 := Fr.app N5 N8q
  refine own_by (T' := T8) (g' := (mkF m 14 #[.val (.ref a)] [(.long (30000 : Int64)), (.long (10000 : Int64)), (.int (3 : Int32)), (.ref a)])) (fun _ kt_ => st8.trans kt_) ?_
  obtain ⟨_, _, ⟨T11, L11, k11, n11⟩, -, X11, ⟨Lc11, hQ11, l11, y11, z11⟩, st11⟩ := Jvm.LawKit.callS X8 hx (y := (⟨"java/time/Clock", "systemUTC", "()Ljava/time/Clock;"⟩ : MethodName)) hown (mvT hZ (hw _ (List.mem_of_getElem? (i := 34) rfl))) (mvT hZ (hw _ (List.mem_of_getElem? (i := 35) rfl))) (mvT hZ (hw _ (List.mem_of_getElem? (i := 36) rfl))) (mvT hZ (hw _ (List.mem_of_getElem? (i := 37) rfl))) (by decide) (backOf (W := 6) (rmUTC l Z a0 hw [] wT wX vU hvU GS  h0 n0 (by omega) O0 ) hZ (hw _ (List.mem_of_getElem? (i := 37) rfl)) (hw _ (List.mem_of_getElem? (i := 36) rfl)) (by decide) (by decide)) (g := (mkF m 14 #[.val (.ref a)] [(.long (30000 : Int64)), (.long (10000 : Int64)), (.int (3 : Int32)), (.ref a)])) rfl (by rw [hml]; rfl) (argsL := []) (rest := [(.long (30000 : Int64)), (.long (10000 : Int64)), (.int (3 : Int32)), (.ref a)]) (lenOf own_pd_4 rfl) rfl (by show 2 * 0 + _ ≤ _; exact Nat.le_of_eq rfl) (hb hby own_d1_14) (fun _ _ => ⟨rfl, e8, (by decide : 0 + 0 ≤ _), (by decide : 0 + 0 ≤ _)⟩)
  dsimp only [Pt.U, Pt.locs, Pt.cells, Pt.slots] at X11 l11 y11 z11 st11 hQ11
  subst l11 y11 z11
  obtain ⟨rfl, N11q, e11⟩ := hQ11
  have N12 := Fr.app N10 N11q
  refine own_by (T' := T11) (g' := (mkF m 17 #[.val (.ref a)] [vU, (.long (30000 : Int64)), (.long (10000 : Int64)), (.int (3 : Int32)), (.ref a)])) st11 ?_
  have la13 := E_a.lt
  obtain ⟨_, _, ⟨T14, L14, k14, n14⟩, -, X14, ⟨Lc14, hQ14, l14, y14, z14⟩, st14⟩ := X11.specialBack hx (y := (⟨"com/example/fairlead/fairlead/core/BreakerPolicy", "<init>", "(IJJLjava/time/Clock;)V"⟩ : MethodName)) rfl hown (mvT hZ (hw _ (List.mem_of_getElem? (i := 41) rfl))) (mvT hZ (hw _ (List.mem_of_getElem? (i := 42) rfl))) (mvT hZ (hw _ (List.mem_of_getElem? (i := 43) rfl))) (by decide) (backOf (W := 0) (rmI4 l Z a0 hw [] wT wX vU hvU GS a (3 : Int32) (10000 : Int64) (30000 : Int64) vU hvU h0 n0 (by omega) O0 E_a (by omega) F_tripFailures F_tripMillis F_maxTripMillis F_clock) hZ (hw _ (List.mem_of_getElem? (i := 43) rfl)) (hw _ (List.mem_of_getElem? (i := 2) rfl)) (by decide) (by decide)) (g := (mkF m 17 #[.val (.ref a)] [vU, (.long (30000 : Int64)), (.long (10000 : Int64)), (.int (3 : Int32)), (.ref a)])) rfl (by rw [hml]; rfl) (Steps.refl _) (a := a) (argsL := [(.int (3 : Int32)), (.long (10000 : Int64)), (.long (30000 : Int64)), vU]) (rest := []) (lenOf own_pd_5 rfl) rfl (by show 2 * 0 + _ ≤ _; exact Nat.le_of_eq rfl) (hb hby own_d1_17) (fun _ _ => ⟨rfl, e11, (by decide : 0 + 0 ≤ _), (by decide : 0 + 0 ≤ _)⟩)
  dsimp only [Pt.U, Pt.locs, Pt.cells, Pt.slots] at X14 l14 y14 z14 st14 hQ14
  subst l14 y14 z14
  obtain ⟨rfl, N14q, K14, p14_0, p14_1, p14_2, p14_3⟩ := hQ14
  have N15 := Fr.app N12 N14q
  have zzK14 : h0.size ≤ T14.heap.size := K14.1
  have oo16 : Old Z n0 T14.heap := O0.keep K14 (allS (by omega : n0 ≤ a) all0)
  have kt17 : Keep h0 T14.heap [a] := KT0.trans K14 (allS (Or.inl (List.mem_of_getElem? (i := 0) rfl)) all0)
  refine own_by (T' := T14) (g' := (mkF m 20 #[.val (.ref a)] [])) (fun _ kt_ => st14.trans kt_) ?_
  obtain ⟨fs18, hr18, hrun18, hended18, hW18, hsame18⟩ := X14.leave (v := none) (fun _ => rfl)
  refine ⟨_, _, X14.returnOut hx Bd.returns (hb hby own_d1_20) hr18, hrun18, hended18, _, _, rfl, ?_, ⟨_, rfl⟩, hW18, hsame18.mono (by decide) (by decide)⟩
  show Q_rmI0 Z wT wX vU hvU a h0 n0 _ T14.heap _
  exact ⟨rfl, N15, kt17, p14_0, p14_1, p14_2, p14_3⟩
theorem own_d11_0 : decode prog_4_method_3_code 0 = .ok (.iload_n 1, 1) := by decide +kernel
theorem own_d11_1 : decode prog_4_method_3_code 1 = .ok (.iconst 1, 1) := by decide +kernel
theorem own_d11_2 : decode prog_4_method_3_code 2 = .ok (.if_icmp .ge 17, 3) := by decide +kernel
theorem own_d11_19 : decode prog_4_method_3_code 19 = .ok (.new 1, 3) := by decide +kernel
theorem own_d11_22 : decode prog_4_method_3_code 22 = .ok (.dup, 1) := by decide +kernel
theorem own_d11_23 : decode prog_4_method_3_code 23 = .ok (.iload_n 1, 1) := by decide +kernel
theorem own_d11_24 : decode prog_4_method_3_code 24 = .ok (.aload_n 0, 1) := by decide +kernel
theorem own_d11_25 : decode prog_4_method_3_code 25 = .ok (.getfield 35, 3) := by decide +kernel
theorem own_d11_28 : decode prog_4_method_3_code 28 = .ok (.aload_n 0, 1) := by decide +kernel
theorem own_d11_29 : decode prog_4_method_3_code 29 = .ok (.getfield 39, 3) := by decide +kernel
theorem own_d11_32 : decode prog_4_method_3_code 32 = .ok (.aload_n 0, 1) := by decide +kernel
theorem own_d11_33 : decode prog_4_method_3_code 33 = .ok (.getfield 42, 3) := by decide +kernel
theorem own_d11_36 : decode prog_4_method_3_code 36 = .ok (.invokespecial 22, 3) := by decide +kernel
theorem own_d11_39 : decode prog_4_method_3_code 39 = .ok (.areturn, 1) := by decide +kernel
theorem own_ef_rmW (m : MethodId) (x0 : Addr) (x1 : Int32) : entryFrame m #[(.ref x0), (.int x1)] 2 = mkF m 0 #[.val (.ref x0), .val (.int x1)] [] := by first | (simp [entryFrame, mkF, argsToLocals, Value.category]; done) | rfl
def Q_rmW (Z : State) (wT : Addr) (wX : Addr) (vU : Value) (hvU : vU.isRef = true) (a : Addr) (f : Int32) (h0 : Heap) (n0 : Nat) (vv_ : Option Value) (hh_ : Heap) (LL_ : List Loc) : Prop := ∃ b : Addr, vv_ = some (.ref b) ∧ Fr n0 LL_ ∧ Keep h0 hh_ [] ∧ h0.size ≤ b ∧ Exa Z hh_ b "com/example/fairlead/fairlead/core/BreakerPolicy" ∧ Fld Z hh_ b "com/example/fairlead/fairlead/core/BreakerPolicy" "tripFailures" "I" (.int f) ∧ Fld Z hh_ b "com/example/fairlead/fairlead/core/BreakerPolicy" "tripMillis" "J" (.long (10000 : Int64)) ∧ Fld Z hh_ b "com/example/fairlead/fairlead/core/BreakerPolicy" "maxTripMillis" "J" (.long (30000 : Int64)) ∧ Fld Z hh_ b "com/example/fairlead/fairlead/core/BreakerPolicy" "clock" "Ljava/time/Clock;" vU
set_option maxRecDepth 65536 in
set_option maxHeartbeats 40000000 in
theorem rmW (l : Launch) (Z : State) (a0 : Array Value) (hw : ∀ d ∈ tables_1, d.before a0 Z = true) (ws : List Jvm.Cond) (wT : Addr) (wX : Addr) (vU : Value) (hvU : vU.isRef = true) (GS : Glob Z wT wX vU hvU) (a : Addr) (f : Int32) (h0 : Heap) (n0 : Nat) (Z0 : n0 ≤ h0.size) (O0 : Old Z n0 h0) (hf : ¬ f < (1 : Int32)) (F_tripMillis : Fld Z h0 a "com/example/fairlead/fairlead/core/BreakerPolicy" "tripMillis" "J" (.long (10000 : Int64))) (F_maxTripMillis : Fld Z h0 a "com/example/fairlead/fairlead/core/BreakerPolicy" "maxTripMillis" "J" (.long (30000 : Int64))) (F_clock : Fld Z h0 a "com/example/fairlead/fairlead/core/BreakerPolicy" "clock" "Ljava/time/Clock;" vU) :
    MetFree l (⟨"com/example/fairlead/fairlead/core/BreakerPolicy", "withTripFailures", "(I)Lcom/example/fairlead/fairlead/core/BreakerPolicy;"⟩ : MethodName) (head1 (Jvm.Cond.code (⟨"com/example/fairlead/fairlead/core/BreakerPolicy", "withTripFailures", "(I)Lcom/example/fairlead/fairlead/core/BreakerPolicy;"⟩ : MethodName) prog_4_method_3_code 2 (some (.object "com/example/fairlead/fairlead/core/BreakerPolicy")) :: ws) ({ frames := 2, cells := 1, slots := 4, locals := 31 } : Room)) (fun aa_ UU_ => aa_ = #[(.ref a), (.int f)] ∧ Z.Warmed39 UU_.vm ∧ UU_.heap = h0) (fun _ _ _ _ _ => True) (fun _ UU_ oo_ UV_ => ∃ vv_ LL_, oo_ = .returned vv_ ∧ Q_rmW Z wT wX vU hvU a f h0 n0 vv_ UV_.heap LL_ ∧ FrameEnd UU_ oo_ UV_ LL_ ({ frames := 2, cells := 1, slots := 4, locals := 31 } : Room).cells ({ frames := 2, cells := 1, slots := 4, locals := 31 } : Room).slots) := by
  refine MetFree.of_bodySF (plainFor_of_name own_pn_com_example_fairlead_fairlead_core_BreakerPolicy) hisR ?_
  intro p e s m args below meth c s₁ Bd hml0 hP hK
  obtain ⟨rfl, hZ, hh⟩ := hP
  have hx := Bd.exec
  have hby := Bd.bytes
  have hml : c.maxLocals = 2 := hml0
  have hown : s.vm.findClass "com/example/fairlead/fairlead/core/BreakerPolicy" = some m.cls := findClass_of_methodNamed Bd.named
  have hnm := (name_of_methodNamed Bd.named Bd.method).1
  have X0 : Stand p l e ({ frames := 2, cells := 1, slots := 4, locals := 31 } : Room) s m #[(.ref a), (.int f)] below meth c s₁ [] 0 0 := Stand.of_body Bd
  have e0 : s₁.heap = h0 := by rw [← hh, Bd.state]; rfl
  have N0 := Fr.nil n0
  have hn0 : Z.heap.size = n0 := O0.1
  have KT0 : Keep h0 h0 [] := Keep.refl _ _
  refine own_enter (Φ := fun oo_ UV_ => ∃ vv_ LL_, oo_ = .returned vv_ ∧ Q_rmW Z wT wX vU hvU a f h0 n0 vv_ UV_.heap LL_ ∧ FrameEnd s oo_ UV_ LL_ ({ frames := 2, cells := 1, slots := 4, locals := 31 } : Room).cells ({ frames := 2, cells := 1, slots := 4, locals := 31 } : Room).slots) (own_ef_rmW m a f) ?_
  refine own_by (T' := s₁) (g' := (mkF m 1 #[.val (.ref a), .val (.int f)] [(.int f)])) (fun _ kt_ => XS.iloadN X0.here hx rfl (hb hby own_d11_0) rfl kt_) ?_
  refine own_by (T' := s₁) (g' := (mkF m 2 #[.val (.ref a), .val (.int f)] [(.int (1 : Int32)), (.int f)])) (fun _ kt_ => XS.iconst X0.here hx rfl (hb hby own_d11_1) kt_) ?_
  refine own_by (T' := s₁) (g' := (mkF m 19 #[.val (.ref a), .val (.int f)] [])) (fun _ kt_ => XS.icmpYes X0.here hx rfl (pc0 := 2) (pc' := 19) rfl (hb hby own_d11_2) rfl (XT.ii_ge_t hf) (by decide) (by decide) kt_) ?_
  obtain ⟨T1, h1, X1, e1, E1, A1, D1, -, st1⟩ := newO X0 hx hZ hown (hw _ (List.mem_of_getElem? (i := 64) rfl)) (hw _ (List.mem_of_getElem? (i := 1) rfl)) (hw _ (List.mem_of_getElem? (i := 2) rfl)) e0 (g := (mkF m 19 #[.val (.ref a), .val (.int f)] [])) rfl (hb hby own_d11_19) (by decide) (by decide)
  obtain ⟨b1, g1⟩ : ∃ z, z = h0.size := ⟨_, rfl⟩
  rw [← g1] at A1 D1 st1
  have K2 : Keep h0 h1 [] := own_kext E1
  have zzK2 : h0.size ≤ h1.size := K2.1
  have oo3 : Old Z n0 h1 := O0.keep K2 all0
  have kt4 : Keep h0 h1 [] := KT0.trans K2 all0
  have lab1 := A1.lt
  have f5 : Fld Z h1 b1 "com/example/fairlead/fairlead/core/BreakerPolicy" "tripFailures" "I" (.int (0 : Int32)) := D1 (Or.inr (hw _ (List.mem_of_getElem? (i := 48) rfl))) (ty := .int) (by decide)
  have f6 : Fld Z h1 b1 "com/example/fairlead/fairlead/core/BreakerPolicy" "tripMillis" "J" (.long (0 : Int64)) := D1 (Or.inr (hw _ (List.mem_of_getElem? (i := 50) rfl))) (ty := .long) (by decide)
  have f7 : Fld Z h1 b1 "com/example/fairlead/fairlead/core/BreakerPolicy" "maxTripMillis" "J" (.long (0 : Int64)) := D1 (Or.inr (hw _ (List.mem_of_getElem? (i := 52) rfl))) (ty := .long) (by decide)
  have f8 : Fld Z h1 b1 "com/example/fairlead/fairlead/core/BreakerPolicy" "clock" "Ljava/time/Clock;" .null := D1 (Or.inr (hw _ (List.mem_of_getElem? (i := 54) rfl))) (ty := (.object "java/time/Clock")) (by decide)
  refine own_by (T' := T1) (g' := (mkF m 22 #[.val (.ref a), .val (.int f)] [(.ref b1)])) st1 ?_
  refine own_by (T' := T1) (g' := (mkF m 23 #[.val (.ref a), .val (.int f)] [(.ref b1), (.ref b1)])) (fun _ kt_ => XS.dup X1.here hx rfl (hb hby own_d11_22) rfl rfl kt_) ?_
  refine own_by (T' := T1) (g' := (mkF m 24 #[.val (.ref a), .val (.int f)] [(.int f), (.ref b1), (.ref b1)])) (fun _ kt_ => XS.iloadN X1.here hx rfl (hb hby own_d11_23) rfl kt_) ?_
  refine own_by (T' := T1) (g' := (mkF m 25 #[.val (.ref a), .val (.int f)] [(.ref a), (.int f), (.ref b1), (.ref b1)])) (fun _ kt_ => XS.aloadN X1.here hx rfl (hb hby own_d11_24) rfl rfl kt_) ?_
  have f9 : Fld Z h1 a "com/example/fairlead/fairlead/core/BreakerPolicy" "tripMillis" "J" (.long (10000 : Int64)) := (F_tripMillis.keep K2 nin0)
  obtain ⟨T10, X10, e10, st10⟩ := getF X1 hx hZ hown (host := "") (Or.inl (hw _ (List.mem_of_getElem? (i := 49) rfl))) Via.refl e1 f9 (g := (mkF m 25 #[.val (.ref a), .val (.int f)] [(.ref a), (.int f), (.ref b1), (.ref b1)])) rfl rfl (hb hby own_d11_25)
  refine own_by (T' := T10) (g' := (mkF m 28 #[.val (.ref a), .val (.int f)] [(.long (10000 : Int64)), (.int f), (.ref b1), (.ref b1)])) st10 ?_
  refine own_by (T' := T10) (g' := (mkF m 29 #[.val (.ref a), .val (.int f)] [(.ref a), (.long (10000 : Int64)), (.int f), (.ref b1), (.ref b1)])) (fun _ kt_ => XS.aloadN X10.here hx rfl (hb hby own_d11_28) rfl rfl kt_) ?_
  have f11 : Fld Z h1 a "com/example/fairlead/fairlead/core/BreakerPolicy" "maxTripMillis" "J" (.long (30000 : Int64)) := (F_maxTripMillis.keep K2 nin0)
  obtain ⟨T12, X12, e12, st12⟩ := getF X10 hx hZ hown (host := "") (Or.inl (hw _ (List.mem_of_getElem? (i := 51) rfl))) Via.refl e10 f11 (g := (mkF m 29 #[.val (.ref a), .val (.int f)] [(.ref a), (.long (10000 : Int64)), (.int f), (.ref b1), (.ref b1)])) rfl rfl (hb hby own_d11_29)
  refine own_by (T' := T12) (g' := (mkF m 32 #[.val (.ref a), .val (.int f)] [(.long (30000 : Int64)), (.long (10000 : Int64)), (.int f), (.ref b1), (.ref b1)])) st12 ?_
  refine own_by (T' := T12) (g' := (mkF m 33 #[.val (.ref a), .val (.int f)] [(.ref a), (.long (30000 : Int64)), (.long (10000 : Int64)), (.int f), (.ref b1), (.ref b1)])) (fun _ kt_ => XS.aloadN X12.here hx rfl (hb hby own_d11_32) rfl rfl kt_) ?_
  have f13 : Fld Z h1 a "com/example/fairlead/fairlead/core/BreakerPolicy" "clock" "Ljava/time/Clock;" vU := (F_clock.keep K2 nin0)
  obtain ⟨T14, X14, e14, st14⟩ := getF X12 hx hZ hown (host := "") (Or.inl (hw _ (List.mem_of_getElem? (i := 53) rfl))) Via.refl e12 f13 (g := (mkF m 33 #[.val (.ref a), .val (.int f)] [(.ref a), (.long (30000 : Int64)), (.long (10000 : Int64)), (.int f), (.ref b1), (.ref b1)])) rfl rfl (hb hby own_d11_33)
  refine own_by (T' := T14) (g' := (mkF m 36 #[.val (.ref a), .val (.int f)] [vU, (.long (30000 : Int64)), (.long (10000 : Int64)), (.int f), (.ref b1), (.ref b1)])) st14 ?_
  obtain ⟨_, _, ⟨T15, L15, k15, n15⟩, -, X15, ⟨Lc15, hQ15, l15, y15, z15⟩, st15⟩ := X14.specialBack hx (y := (⟨"com/example/fairlead/fairlead/core/BreakerPolicy", "<init>", "(IJJLjava/time/Clock;)V"⟩ : MethodName)) rfl hown (mvT hZ (hw _ (List.mem_of_getElem? (i := 41) rfl))) (mvT hZ (hw _ (List.mem_of_getElem? (i := 42) rfl))) (mvT hZ (hw _ (List.mem_of_getElem? (i := 43) rfl))) (by decide) (backOf (W := 1) (rmI4 l Z a0 hw [] wT wX vU hvU GS b1 f (10000 : Int64) (30000 : Int64) vU hvU h1 n0 (by omega) oo3 A1 (by omega) f5 f6 f7 f8) hZ (hw _ (List.mem_of_getElem? (i := 43) rfl)) (hw _ (List.mem_of_getElem? (i := 2) rfl)) (by decide) (by decide)) (g := (mkF m 36 #[.val (.ref a), .val (.int f)] [vU, (.long (30000 : Int64)), (.long (10000 : Int64)), (.int f), (.ref b1), (.ref b1)])) rfl (by rw [hml]; rfl) (Steps.refl _) (a := b1) (argsL := [(.int f), (.long (10000 : Int64)), (.long (30000 : Int64)), vU]) (rest := [(.ref b1)]) (lenOf own_pd_5 rfl) rfl (by show 2 * 0 + _ ≤ _; exact Nat.le_of_eq rfl) (hb hby own_d11_36) (fun _ _ => ⟨rfl, e14, (by decide : 1 + 0 ≤ _), (by decide : 4 + 0 ≤ _)⟩)
  dsimp only [Pt.U, Pt.locs, Pt.cells, Pt.slots] at X15 l15 y15 z15 st15 hQ15
  subst l15 y15 z15
  obtain ⟨rfl, N15q, K15, p15_0, p15_1, p15_2, p15_3⟩ := hQ15
  have N16 := Fr.app N0 N15q
  have zzK15 : h1.size ≤ T15.heap.size := K15.1
  have oo17 : Old Z n0 T15.heap := oo3.keep K15 (allS (by omega : n0 ≤ b1) all0)
  have kt18 : Keep h0 T15.heap [] := kt4.trans K15 (allS (Or.inr (by omega : h0.size ≤ b1)) all0)
  refine own_by (T' := T15) (g' := (mkF m 39 #[.val (.ref a), .val (.int f)] [(.ref b1)])) (fun _ kt_ => st15.trans kt_) ?_
  have f19 : Exa Z T15.heap b1 "com/example/fairlead/fairlead/core/BreakerPolicy" := (A1.keep K15)
  obtain ⟨fs20, hr20, hrun20, hended20, hW20, hsame20⟩ := X15.leave (v := some (.ref b1)) (fun h => by rw [Bd.returns] at h; cases h)
  refine ⟨_, _, retOut X15 hx (t := (.object "com/example/fairlead/fairlead/core/BreakerPolicy")) Bd.returns rfl (Or.inr (Or.inr (Or.inr (Or.inr ⟨rfl, rfl, rfl⟩)))) (hb hby own_d11_39) hr20, hrun20, hended20, _, _, rfl, ?_, ⟨_, rfl⟩, hW20, hsame20.mono (by decide) (by decide)⟩
  show Q_rmW Z wT wX vU hvU a f h0 n0 _ T15.heap _
  exact ⟨b1, rfl, N16, kt18, (by omega), f19, p15_0, p15_1, p15_2, p15_3⟩
theorem own_d12_0 : decode prog_4_method_7_code 0 = .ok (.iload_n 1, 1) := by decide +kernel
theorem own_d12_1 : decode prog_4_method_7_code 1 = .ok (.aload_n 0, 1) := by decide +kernel
theorem own_d12_2 : decode prog_4_method_7_code 2 = .ok (.getfield 31, 3) := by decide +kernel
theorem own_d12_5 : decode prog_4_method_7_code 5 = .ok (.if_icmp .ge 5, 3) := by decide +kernel
theorem own_d12_8 : decode prog_4_method_7_code 8 = .ok (.lconst 0, 1) := by decide +kernel
theorem own_d12_9 : decode prog_4_method_7_code 9 = .ok (.lreturn, 1) := by decide +kernel
theorem own_d12_10 : decode prog_4_method_7_code 10 = .ok (.aload_n 0, 1) := by decide +kernel
theorem own_d12_11 : decode prog_4_method_7_code 11 = .ok (.getfield 35, 3) := by decide +kernel
theorem own_d12_14 : decode prog_4_method_7_code 14 = .ok (.lstore_n 2, 1) := by decide +kernel
theorem own_d12_15 : decode prog_4_method_7_code 15 = .ok (.aload_n 0, 1) := by decide +kernel
theorem own_d12_16 : decode prog_4_method_7_code 16 = .ok (.getfield 31, 3) := by decide +kernel
theorem own_d12_19 : decode prog_4_method_7_code 19 = .ok (.istore 4, 2) := by decide +kernel
theorem own_d12_21 : decode prog_4_method_7_code 21 = .ok (.iload 4, 2) := by decide +kernel
theorem own_d12_23 : decode prog_4_method_7_code 23 = .ok (.iload_n 1, 1) := by decide +kernel
theorem own_d12_24 : decode prog_4_method_7_code 24 = .ok (.if_icmp .ge 44, 3) := by decide +kernel
theorem own_d12_27 : decode prog_4_method_7_code 27 = .ok (.lload_n 2, 1) := by decide +kernel
theorem own_d12_28 : decode prog_4_method_7_code 28 = .ok (.aload_n 0, 1) := by decide +kernel
theorem own_d12_29 : decode prog_4_method_7_code 29 = .ok (.getfield 39, 3) := by decide +kernel
theorem own_d12_32 : decode prog_4_method_7_code 32 = .ok (.lcmp, 1) := by decide +kernel
theorem own_d12_33 : decode prog_4_method_7_code 33 = .ok (.ifCond .ge 35, 3) := by decide +kernel
theorem own_d12_36 : decode prog_4_method_7_code 36 = .ok (.lload_n 2, 1) := by decide +kernel
theorem own_d12_37 : decode prog_4_method_7_code 37 = .ok (.aload_n 0, 1) := by decide +kernel
theorem own_d12_38 : decode prog_4_method_7_code 38 = .ok (.getfield 39, 3) := by decide +kernel
theorem own_d12_41 : decode prog_4_method_7_code 41 = .ok (.ldc2_w 75, 3) := by decide +kernel
theorem own_d12_44 : decode prog_4_method_7_code 44 = .ok (.ldiv, 1) := by decide +kernel
theorem own_d12_45 : decode prog_4_method_7_code 45 = .ok (.lcmp, 1) := by decide +kernel
theorem own_d12_46 : decode prog_4_method_7_code 46 = .ok (.ifCond .le 10, 3) := by decide +kernel
theorem own_d12_49 : decode prog_4_method_7_code 49 = .ok (.aload_n 0, 1) := by decide +kernel
theorem own_d12_50 : decode prog_4_method_7_code 50 = .ok (.getfield 39, 3) := by decide +kernel
theorem own_d12_53 : decode prog_4_method_7_code 53 = .ok (.goto 8, 3) := by decide +kernel
theorem own_d12_56 : decode prog_4_method_7_code 56 = .ok (.ldc2_w 75, 3) := by decide +kernel
theorem own_d12_59 : decode prog_4_method_7_code 59 = .ok (.lload_n 2, 1) := by decide +kernel
theorem own_d12_60 : decode prog_4_method_7_code 60 = .ok (.lmul, 1) := by decide +kernel
theorem own_d12_61 : decode prog_4_method_7_code 61 = .ok (.lstore_n 2, 1) := by decide +kernel
theorem own_d12_62 : decode prog_4_method_7_code 62 = .ok (.iinc 4 1, 3) := by decide +kernel
theorem own_d12_65 : decode prog_4_method_7_code 65 = .ok (.goto (-44), 3) := by decide +kernel
theorem own_d12_68 : decode prog_4_method_7_code 68 = .ok (.lload_n 2, 1) := by decide +kernel
theorem own_d12_69 : decode prog_4_method_7_code 69 = .ok (.lreturn, 1) := by decide +kernel
theorem own_ef_rmTrip (m : MethodId) (x0 : Addr) (x1 : Int32) : entryFrame m #[(.ref x0), (.int x1)] 5 = mkF m 0 #[.val (.ref x0), .val (.int x1), .unset, .unset, .unset] [] := by first | (simp [entryFrame, mkF, argsToLocals, Value.category]; done) | rfl
def Q_rmTrip (Z : State) (wT : Addr) (wX : Addr) (vU : Value) (hvU : vU.isRef = true) (a : Addr) (f : Int32) (n : Int32) (h0 : Heap) (n0 : Nat) (vv_ : Option Value) (hh_ : Heap) (LL_ : List Loc) : Prop := vv_ = some (.long (tripF f n)) ∧ Fr n0 LL_ ∧ hh_ = h0
set_option maxRecDepth 65536 in
set_option maxHeartbeats 40000000 in
theorem rmTrip (l : Launch) (Z : State) (a0 : Array Value) (hw : ∀ d ∈ tables_1, d.before a0 Z = true) (ws : List Jvm.Cond) (wT : Addr) (wX : Addr) (vU : Value) (hvU : vU.isRef = true) (GS : Glob Z wT wX vU hvU) (a : Addr) (f : Int32) (n : Int32) (h0 : Heap) (n0 : Nat) (Z0 : n0 ≤ h0.size) (O0 : Old Z n0 h0) (F_tripFailures : Fld Z h0 a "com/example/fairlead/fairlead/core/BreakerPolicy" "tripFailures" "I" (.int f)) (F_tripMillis : Fld Z h0 a "com/example/fairlead/fairlead/core/BreakerPolicy" "tripMillis" "J" (.long (10000 : Int64))) (F_maxTripMillis : Fld Z h0 a "com/example/fairlead/fairlead/core/BreakerPolicy" "maxTripMillis" "J" (.long (30000 : Int64))) :
    MetFree l (⟨"com/example/fairlead/fairlead/core/BreakerPolicy", "tripMillis", "(I)J"⟩ : MethodName) (head1 (Jvm.Cond.code (⟨"com/example/fairlead/fairlead/core/BreakerPolicy", "tripMillis", "(I)J"⟩ : MethodName) prog_4_method_7_code 5 (some .long) :: ws) ({ frames := 0, cells := 0, slots := 0, locals := 0 } : Room)) (fun aa_ UU_ => aa_ = #[(.ref a), (.int n)] ∧ Z.Warmed39 UU_.vm ∧ UU_.heap = h0) (fun _ _ _ _ _ => True) (fun _ UU_ oo_ UV_ => ∃ vv_ LL_, oo_ = .returned vv_ ∧ Q_rmTrip Z wT wX vU hvU a f n h0 n0 vv_ UV_.heap LL_ ∧ FrameEnd UU_ oo_ UV_ LL_ ({ frames := 0, cells := 0, slots := 0, locals := 0 } : Room).cells ({ frames := 0, cells := 0, slots := 0, locals := 0 } : Room).slots) := by
  refine MetFree.of_bodySF (plainFor_of_name own_pn_com_example_fairlead_fairlead_core_BreakerPolicy) hisR ?_
  intro p e s m args below meth c s₁ Bd hml0 hP hK
  obtain ⟨rfl, hZ, hh⟩ := hP
  have hx := Bd.exec
  have hby := Bd.bytes
  have hml : c.maxLocals = 5 := hml0
  have hown : s.vm.findClass "com/example/fairlead/fairlead/core/BreakerPolicy" = some m.cls := findClass_of_methodNamed Bd.named
  have hnm := (name_of_methodNamed Bd.named Bd.method).1
  have X0 : Stand p l e ({ frames := 0, cells := 0, slots := 0, locals := 0 } : Room) s m #[(.ref a), (.int n)] below meth c s₁ [] 0 0 := Stand.of_body Bd
  have e0 : s₁.heap = h0 := by rw [← hh, Bd.state]; rfl
  have N0 := Fr.nil n0
  have hn0 : Z.heap.size = n0 := O0.1
  have KT0 : Keep h0 h0 [] := Keep.refl _ _
  refine own_enter (Φ := fun oo_ UV_ => ∃ vv_ LL_, oo_ = .returned vv_ ∧ Q_rmTrip Z wT wX vU hvU a f n h0 n0 vv_ UV_.heap LL_ ∧ FrameEnd s oo_ UV_ LL_ ({ frames := 0, cells := 0, slots := 0, locals := 0 } : Room).cells ({ frames := 0, cells := 0, slots := 0, locals := 0 } : Room).slots) (own_ef_rmTrip m a n) ?_
  refine own_by (T' := s₁) (g' := (mkF m 1 #[.val (.ref a), .val (.int n), .unset, .unset, .unset] [(.int n)])) (fun _ kt_ => XS.iloadN X0.here hx rfl (hb hby own_d12_0) rfl kt_) ?_
  refine own_by (T' := s₁) (g' := (mkF m 2 #[.val (.ref a), .val (.int n), .unset, .unset, .unset] [(.ref a), (.int n)])) (fun _ kt_ => XS.aloadN X0.here hx rfl (hb hby own_d12_1) rfl rfl kt_) ?_
  obtain ⟨T1, X1, e1, st1⟩ := getF X0 hx hZ hown (host := "") (Or.inl (hw _ (List.mem_of_getElem? (i := 47) rfl))) Via.refl e0 F_tripFailures (g := (mkF m 2 #[.val (.ref a), .val (.int n), .unset, .unset, .unset] [(.ref a), (.int n)])) rfl rfl (hb hby own_d12_2)
  refine own_by (T' := T1) (g' := (mkF m 5 #[.val (.ref a), .val (.int n), .unset, .unset, .unset] [(.int f), (.int n)])) st1 ?_
  by_cases hc2 : n < f
  · refine own_by (T' := T1) (g' := (mkF m 8 #[.val (.ref a), .val (.int n), .unset, .unset, .unset] [])) (fun _ kt_ => XS.icmpNo X1.here hx rfl (hb hby own_d12_5) rfl (XT.ii_ge_f hc2) kt_) ?_
    refine own_by (T' := T1) (g' := (mkF m 9 #[.val (.ref a), .val (.int n), .unset, .unset, .unset] [(.long (0 : Int64))])) (fun _ kt_ => XS.lconst X1.here hx rfl (hb hby own_d12_8) kt_) ?_
    have hr3 : (0 : Int64) = (tripF f n) := by simp [tripF, hc2]
    obtain ⟨fs4, hr4, hrun4, hended4, hW4, hsame4⟩ := X1.leave (v := some (.long (0 : Int64))) (fun h => by rw [Bd.returns] at h; cases h)
    refine ⟨_, _, retOut X1 hx (t := .long) Bd.returns rfl (Or.inr (Or.inl ⟨rfl, rfl, _, rfl⟩)) (hb hby own_d12_9) hr4, hrun4, hended4, _, _, rfl, ?_, ⟨_, rfl⟩, hW4, hsame4.mono (by decide) (by decide)⟩
    show Q_rmTrip Z wT wX vU hvU a f n h0 n0 _ T1.heap _
    exact ⟨(congrArg (fun z => some (Value.long z)) hr3), N0, e1⟩
  · refine own_by (T' := T1) (g' := (mkF m 10 #[.val (.ref a), .val (.int n), .unset, .unset, .unset] [])) (fun _ kt_ => XS.icmpYes X1.here hx rfl (pc0 := 5) (pc' := 10) rfl (hb hby own_d12_5) rfl (XT.ii_ge_t hc2) (by decide) (by decide) kt_) ?_
    refine own_by (T' := T1) (g' := (mkF m 11 #[.val (.ref a), .val (.int n), .unset, .unset, .unset] [(.ref a)])) (fun _ kt_ => XS.aloadN X1.here hx rfl (hb hby own_d12_10) rfl rfl kt_) ?_
    obtain ⟨T5, X5, e5, st5⟩ := getF X1 hx hZ hown (host := "") (Or.inl (hw _ (List.mem_of_getElem? (i := 49) rfl))) Via.refl e1 F_tripMillis (g := (mkF m 11 #[.val (.ref a), .val (.int n), .unset, .unset, .unset] [(.ref a)])) rfl rfl (hb hby own_d12_11)
    refine own_by (T' := T5) (g' := (mkF m 14 #[.val (.ref a), .val (.int n), .unset, .unset, .unset] [(.long (10000 : Int64))])) st5 ?_
    refine own_by (T' := T5) (g' := (mkF m 15 #[.val (.ref a), .val (.int n), .val (.long (10000 : Int64)), .second, .unset] [])) (fun _ kt_ => XS.lstoreN X5.here hx rfl (hb hby own_d12_14) rfl (l' := #[.val (.ref a), .val (.int n), .val (.long (10000 : Int64)), .second, .unset]) rfl kt_) ?_
    refine own_by (T' := T5) (g' := (mkF m 16 #[.val (.ref a), .val (.int n), .val (.long (10000 : Int64)), .second, .unset] [(.ref a)])) (fun _ kt_ => XS.aloadN X5.here hx rfl (hb hby own_d12_15) rfl rfl kt_) ?_
    obtain ⟨T6, X6, e6, st6⟩ := getF X5 hx hZ hown (host := "") (Or.inl (hw _ (List.mem_of_getElem? (i := 47) rfl))) Via.refl e5 F_tripFailures (g := (mkF m 16 #[.val (.ref a), .val (.int n), .val (.long (10000 : Int64)), .second, .unset] [(.ref a)])) rfl rfl (hb hby own_d12_16)
    refine own_by (T' := T6) (g' := (mkF m 19 #[.val (.ref a), .val (.int n), .val (.long (10000 : Int64)), .second, .unset] [(.int f)])) st6 ?_
    refine own_by (T' := T6) (g' := (mkF m 21 #[.val (.ref a), .val (.int n), .val (.long (10000 : Int64)), .second, .val (.int f)] [])) (fun _ kt_ => XS.istore X6.here hx rfl (hb hby own_d12_19) rfl (l' := #[.val (.ref a), .val (.int n), .val (.long (10000 : Int64)), .second, .val (.int f)]) rfl kt_) ?_
    refine own_by (T' := T6) (g' := (mkF m 23 #[.val (.ref a), .val (.int n), .val (.long (10000 : Int64)), .second, .val (.int f)] [(.int f)])) (fun _ kt_ => XS.iload X6.here hx rfl (hb hby own_d12_21) rfl kt_) ?_
    refine own_by (T' := T6) (g' := (mkF m 24 #[.val (.ref a), .val (.int n), .val (.long (10000 : Int64)), .second, .val (.int f)] [(.int n), (.int f)])) (fun _ kt_ => XS.iloadN X6.here hx rfl (hb hby own_d12_23) rfl kt_) ?_
    by_cases hc7 : f < n
    · refine own_by (T' := T6) (g' := (mkF m 27 #[.val (.ref a), .val (.int n), .val (.long (10000 : Int64)), .second, .val (.int f)] [])) (fun _ kt_ => XS.icmpNo X6.here hx rfl (hb hby own_d12_24) rfl (XT.ii_ge_f hc7) kt_) ?_
      refine own_by (T' := T6) (g' := (mkF m 28 #[.val (.ref a), .val (.int n), .val (.long (10000 : Int64)), .second, .val (.int f)] [(.long (10000 : Int64))])) (fun _ kt_ => XS.lloadN X6.here hx rfl (hb hby own_d12_27) rfl kt_) ?_
      refine own_by (T' := T6) (g' := (mkF m 29 #[.val (.ref a), .val (.int n), .val (.long (10000 : Int64)), .second, .val (.int f)] [(.ref a), (.long (10000 : Int64))])) (fun _ kt_ => XS.aloadN X6.here hx rfl (hb hby own_d12_28) rfl rfl kt_) ?_
      obtain ⟨T8, X8, e8, st8⟩ := getF X6 hx hZ hown (host := "") (Or.inl (hw _ (List.mem_of_getElem? (i := 51) rfl))) Via.refl e6 F_maxTripMillis (g := (mkF m 29 #[.val (.ref a), .val (.int n), .val (.long (10000 : Int64)), .second, .val (.int f)] [(.ref a), (.long (10000 : Int64))])) rfl rfl (hb hby own_d12_29)
      refine own_by (T' := T8) (g' := (mkF m 32 #[.val (.ref a), .val (.int n), .val (.long (10000 : Int64)), .second, .val (.int f)] [(.long (30000 : Int64)), (.long (10000 : Int64))])) st8 ?_
      refine own_by (T' := T8) (g' := (mkF m 33 #[.val (.ref a), .val (.int n), .val (.long (10000 : Int64)), .second, .val (.int f)] [(.int (XT.cmpL (10000 : Int64) (30000 : Int64)))])) (fun _ kt_ => XT.lcmp X8.here hx rfl (hb hby own_d12_32) rfl kt_) ?_
      refine own_by (T' := T8) (g' := (mkF m 36 #[.val (.ref a), .val (.int n), .val (.long (10000 : Int64)), .second, .val (.int f)] [])) (fun _ kt_ => XS.ifNo X8.here hx rfl (hb hby own_d12_33) rfl (XT.ll_ge_f (by decide)) kt_) ?_
      refine own_by (T' := T8) (g' := (mkF m 37 #[.val (.ref a), .val (.int n), .val (.long (10000 : Int64)), .second, .val (.int f)] [(.long (10000 : Int64))])) (fun _ kt_ => XS.lloadN X8.here hx rfl (hb hby own_d12_36) rfl kt_) ?_
      refine own_by (T' := T8) (g' := (mkF m 38 #[.val (.ref a), .val (.int n), .val (.long (10000 : Int64)), .second, .val (.int f)] [(.ref a), (.long (10000 : Int64))])) (fun _ kt_ => XS.aloadN X8.here hx rfl (hb hby own_d12_37) rfl rfl kt_) ?_
      obtain ⟨T9, X9, e9, st9⟩ := getF X8 hx hZ hown (host := "") (Or.inl (hw _ (List.mem_of_getElem? (i := 51) rfl))) Via.refl e8 F_maxTripMillis (g := (mkF m 38 #[.val (.ref a), .val (.int n), .val (.long (10000 : Int64)), .second, .val (.int f)] [(.ref a), (.long (10000 : Int64))])) rfl rfl (hb hby own_d12_38)
      refine own_by (T' := T9) (g' := (mkF m 41 #[.val (.ref a), .val (.int n), .val (.long (10000 : Int64)), .second, .val (.int f)] [(.long (30000 : Int64)), (.long (10000 : Int64))])) st9 ?_
      refine own_by (T' := T9) (g' := (mkF m 44 #[.val (.ref a), .val (.int n), .val (.long (10000 : Int64)), .second, .val (.int f)] [(.long (2 : Int64)), (.long (30000 : Int64)), (.long (10000 : Int64))])) (fun _ kt_ => X9.ldc2Long hx hown (mvT hZ (hw _ (List.mem_of_getElem? (i := 74) rfl))) (g := (mkF m 41 #[.val (.ref a), .val (.int n), .val (.long (10000 : Int64)), .second, .val (.int f)] [(.long (30000 : Int64)), (.long (10000 : Int64))])) rfl (hb hby own_d12_41) _ kt_) ?_
      refine own_by (T' := T9) (g' := (mkF m 45 #[.val (.ref a), .val (.int n), .val (.long (10000 : Int64)), .second, .val (.int f)] [(.long ((30000 : Int64) / (2 : Int64))), (.long (10000 : Int64))])) (fun _ kt_ => XS.ldiv X9.here hx rfl (hb hby own_d12_44) rfl (by decide) kt_) ?_
      rw [show ((30000 : Int64) / (2 : Int64)) = (15000 : Int64) from by decide]
      refine own_by (T' := T9) (g' := (mkF m 46 #[.val (.ref a), .val (.int n), .val (.long (10000 : Int64)), .second, .val (.int f)] [(.int (XT.cmpL (10000 : Int64) (15000 : Int64)))])) (fun _ kt_ => XT.lcmp X9.here hx rfl (hb hby own_d12_45) rfl kt_) ?_
      refine own_by (T' := T9) (g' := (mkF m 56 #[.val (.ref a), .val (.int n), .val (.long (10000 : Int64)), .second, .val (.int f)] [])) (fun _ kt_ => XS.ifYes X9.here hx rfl (pc0 := 46) (pc' := 56) rfl (hb hby own_d12_46) rfl (XT.ll_le_t (by decide)) (by decide) (by decide) kt_) ?_
      refine own_by (T' := T9) (g' := (mkF m 59 #[.val (.ref a), .val (.int n), .val (.long (10000 : Int64)), .second, .val (.int f)] [(.long (2 : Int64))])) (fun _ kt_ => X9.ldc2Long hx hown (mvT hZ (hw _ (List.mem_of_getElem? (i := 74) rfl))) (g := (mkF m 56 #[.val (.ref a), .val (.int n), .val (.long (10000 : Int64)), .second, .val (.int f)] [])) rfl (hb hby own_d12_56) _ kt_) ?_
      refine own_by (T' := T9) (g' := (mkF m 60 #[.val (.ref a), .val (.int n), .val (.long (10000 : Int64)), .second, .val (.int f)] [(.long (10000 : Int64)), (.long (2 : Int64))])) (fun _ kt_ => XS.lloadN X9.here hx rfl (hb hby own_d12_59) rfl kt_) ?_
      refine own_by (T' := T9) (g' := (mkF m 61 #[.val (.ref a), .val (.int n), .val (.long (10000 : Int64)), .second, .val (.int f)] [(.long ((2 : Int64) * (10000 : Int64)))])) (fun _ kt_ => XS.lmul X9.here hx rfl (hb hby own_d12_60) rfl kt_) ?_
      rw [show ((2 : Int64) * (10000 : Int64)) = (20000 : Int64) from by decide]
      refine own_by (T' := T9) (g' := (mkF m 62 #[.val (.ref a), .val (.int n), .val (.long (20000 : Int64)), .second, .val (.int f)] [])) (fun _ kt_ => XS.lstoreN X9.here hx rfl (hb hby own_d12_61) rfl (l' := #[.val (.ref a), .val (.int n), .val (.long (20000 : Int64)), .second, .val (.int f)]) rfl kt_) ?_
      refine own_by (T' := T9) (g' := (mkF m 65 #[.val (.ref a), .val (.int n), .val (.long (20000 : Int64)), .second, .val (.int (f + (1 : Int32)))] [])) (fun _ kt_ => XS.iinc X9.here hx rfl (hb hby own_d12_62) rfl (l' := #[.val (.ref a), .val (.int n), .val (.long (20000 : Int64)), .second, .val (.int (f + (1 : Int32)))]) rfl kt_) ?_
      refine own_by (T' := T9) (g' := (mkF m 21 #[.val (.ref a), .val (.int n), .val (.long (20000 : Int64)), .second, .val (.int (f + (1 : Int32)))] [])) (fun _ kt_ => XS.goto X9.here hx rfl (pc0 := 65) (pc' := 21) rfl (hb hby own_d12_65) (by decide) (by decide) kt_) ?_
      refine own_by (T' := T9) (g' := (mkF m 23 #[.val (.ref a), .val (.int n), .val (.long (20000 : Int64)), .second, .val (.int (f + (1 : Int32)))] [(.int (f + (1 : Int32)))])) (fun _ kt_ => XS.iload X9.here hx rfl (hb hby own_d12_21) rfl kt_) ?_
      refine own_by (T' := T9) (g' := (mkF m 24 #[.val (.ref a), .val (.int n), .val (.long (20000 : Int64)), .second, .val (.int (f + (1 : Int32)))] [(.int n), (.int (f + (1 : Int32)))])) (fun _ kt_ => XS.iloadN X9.here hx rfl (hb hby own_d12_23) rfl kt_) ?_
      by_cases hc12 : (f + (1 : Int32)) < n
      · refine own_by (T' := T9) (g' := (mkF m 27 #[.val (.ref a), .val (.int n), .val (.long (20000 : Int64)), .second, .val (.int (f + (1 : Int32)))] [])) (fun _ kt_ => XS.icmpNo X9.here hx rfl (hb hby own_d12_24) rfl (XT.ii_ge_f hc12) kt_) ?_
        refine own_by (T' := T9) (g' := (mkF m 28 #[.val (.ref a), .val (.int n), .val (.long (20000 : Int64)), .second, .val (.int (f + (1 : Int32)))] [(.long (20000 : Int64))])) (fun _ kt_ => XS.lloadN X9.here hx rfl (hb hby own_d12_27) rfl kt_) ?_
        refine own_by (T' := T9) (g' := (mkF m 29 #[.val (.ref a), .val (.int n), .val (.long (20000 : Int64)), .second, .val (.int (f + (1 : Int32)))] [(.ref a), (.long (20000 : Int64))])) (fun _ kt_ => XS.aloadN X9.here hx rfl (hb hby own_d12_28) rfl rfl kt_) ?_
        obtain ⟨T13, X13, e13, st13⟩ := getF X9 hx hZ hown (host := "") (Or.inl (hw _ (List.mem_of_getElem? (i := 51) rfl))) Via.refl e9 F_maxTripMillis (g := (mkF m 29 #[.val (.ref a), .val (.int n), .val (.long (20000 : Int64)), .second, .val (.int (f + (1 : Int32)))] [(.ref a), (.long (20000 : Int64))])) rfl rfl (hb hby own_d12_29)
        refine own_by (T' := T13) (g' := (mkF m 32 #[.val (.ref a), .val (.int n), .val (.long (20000 : Int64)), .second, .val (.int (f + (1 : Int32)))] [(.long (30000 : Int64)), (.long (20000 : Int64))])) st13 ?_
        refine own_by (T' := T13) (g' := (mkF m 33 #[.val (.ref a), .val (.int n), .val (.long (20000 : Int64)), .second, .val (.int (f + (1 : Int32)))] [(.int (XT.cmpL (20000 : Int64) (30000 : Int64)))])) (fun _ kt_ => XT.lcmp X13.here hx rfl (hb hby own_d12_32) rfl kt_) ?_
        refine own_by (T' := T13) (g' := (mkF m 36 #[.val (.ref a), .val (.int n), .val (.long (20000 : Int64)), .second, .val (.int (f + (1 : Int32)))] [])) (fun _ kt_ => XS.ifNo X13.here hx rfl (hb hby own_d12_33) rfl (XT.ll_ge_f (by decide)) kt_) ?_
        refine own_by (T' := T13) (g' := (mkF m 37 #[.val (.ref a), .val (.int n), .val (.long (20000 : Int64)), .second, .val (.int (f + (1 : Int32)))] [(.long (20000 : Int64))])) (fun _ kt_ => XS.lloadN X13.here hx rfl (hb hby own_d12_36) rfl kt_) ?_
        refine own_by (T' := T13) (g' := (mkF m 38 #[.val (.ref a), .val (.int n), .val (.long (20000 : Int64)), .second, .val (.int (f + (1 : Int32)))] [(.ref a), (.long (20000 : Int64))])) (fun _ kt_ => XS.aloadN X13.here hx rfl (hb hby own_d12_37) rfl rfl kt_) ?_
        obtain ⟨T14, X14, e14, st14⟩ := getF X13 hx hZ hown (host := "") (Or.inl (hw _ (List.mem_of_getElem? (i := 51) rfl))) Via.refl e13 F_maxTripMillis (g := (mkF m 38 #[.val (.ref a), .val (.int n), .val (.long (20000 : Int64)), .second, .val (.int (f + (1 : Int32)))] [(.ref a), (.long (20000 : Int64))])) rfl rfl (hb hby own_d12_38)
        refine own_by (T' := T14) (g' := (mkF m 41 #[.val (.ref a), .val (.int n), .val (.long (20000 : Int64)), .second, .val (.int (f + (1 : Int32)))] [(.long (30000 : Int64)), (.long (20000 : Int64))])) st14 ?_
        refine own_by (T' := T14) (g' := (mkF m 44 #[.val (.ref a), .val (.int n), .val (.long (20000 : Int64)), .second, .val (.int (f + (1 : Int32)))] [(.long (2 : Int64)), (.long (30000 : Int64)), (.long (20000 : Int64))])) (fun _ kt_ => X14.ldc2Long hx hown (mvT hZ (hw _ (List.mem_of_getElem? (i := 74) rfl))) (g := (mkF m 41 #[.val (.ref a), .val (.int n), .val (.long (20000 : Int64)), .second, .val (.int (f + (1 : Int32)))] [(.long (30000 : Int64)), (.long (20000 : Int64))])) rfl (hb hby own_d12_41) _ kt_) ?_
        refine own_by (T' := T14) (g' := (mkF m 45 #[.val (.ref a), .val (.int n), .val (.long (20000 : Int64)), .second, .val (.int (f + (1 : Int32)))] [(.long ((30000 : Int64) / (2 : Int64))), (.long (20000 : Int64))])) (fun _ kt_ => XS.ldiv X14.here hx rfl (hb hby own_d12_44) rfl (by decide) kt_) ?_
        rw [show ((30000 : Int64) / (2 : Int64)) = (15000 : Int64) from by decide]
        refine own_by (T' := T14) (g' := (mkF m 46 #[.val (.ref a), .val (.int n), .val (.long (20000 : Int64)), .second, .val (.int (f + (1 : Int32)))] [(.int (XT.cmpL (20000 : Int64) (15000 : Int64)))])) (fun _ kt_ => XT.lcmp X14.here hx rfl (hb hby own_d12_45) rfl kt_) ?_
        refine own_by (T' := T14) (g' := (mkF m 49 #[.val (.ref a), .val (.int n), .val (.long (20000 : Int64)), .second, .val (.int (f + (1 : Int32)))] [])) (fun _ kt_ => XS.ifNo X14.here hx rfl (hb hby own_d12_46) rfl (XT.ll_le_f (by decide)) kt_) ?_
        refine own_by (T' := T14) (g' := (mkF m 50 #[.val (.ref a), .val (.int n), .val (.long (20000 : Int64)), .second, .val (.int (f + (1 : Int32)))] [(.ref a)])) (fun _ kt_ => XS.aloadN X14.here hx rfl (hb hby own_d12_49) rfl rfl kt_) ?_
        obtain ⟨T16, X16, e16, st16⟩ := getF X14 hx hZ hown (host := "") (Or.inl (hw _ (List.mem_of_getElem? (i := 51) rfl))) Via.refl e14 F_maxTripMillis (g := (mkF m 50 #[.val (.ref a), .val (.int n), .val (.long (20000 : Int64)), .second, .val (.int (f + (1 : Int32)))] [(.ref a)])) rfl rfl (hb hby own_d12_50)
        refine own_by (T' := T16) (g' := (mkF m 53 #[.val (.ref a), .val (.int n), .val (.long (20000 : Int64)), .second, .val (.int (f + (1 : Int32)))] [(.long (30000 : Int64))])) st16 ?_
        refine own_by (T' := T16) (g' := (mkF m 61 #[.val (.ref a), .val (.int n), .val (.long (20000 : Int64)), .second, .val (.int (f + (1 : Int32)))] [(.long (30000 : Int64))])) (fun _ kt_ => XS.goto X16.here hx rfl (pc0 := 53) (pc' := 61) rfl (hb hby own_d12_53) (by decide) (by decide) kt_) ?_
        refine own_by (T' := T16) (g' := (mkF m 62 #[.val (.ref a), .val (.int n), .val (.long (30000 : Int64)), .second, .val (.int (f + (1 : Int32)))] [])) (fun _ kt_ => XS.lstoreN X16.here hx rfl (hb hby own_d12_61) rfl (l' := #[.val (.ref a), .val (.int n), .val (.long (30000 : Int64)), .second, .val (.int (f + (1 : Int32)))]) rfl kt_) ?_
        refine own_by (T' := T16) (g' := (mkF m 65 #[.val (.ref a), .val (.int n), .val (.long (30000 : Int64)), .second, .val (.int ((f + (1 : Int32)) + (1 : Int32)))] [])) (fun _ kt_ => XS.iinc X16.here hx rfl (hb hby own_d12_62) rfl (l' := #[.val (.ref a), .val (.int n), .val (.long (30000 : Int64)), .second, .val (.int ((f + (1 : Int32)) + (1 : Int32)))]) rfl kt_) ?_
        refine own_by (T' := T16) (g' := (mkF m 21 #[.val (.ref a), .val (.int n), .val (.long (30000 : Int64)), .second, .val (.int ((f + (1 : Int32)) + (1 : Int32)))] [])) (fun _ kt_ => XS.goto X16.here hx rfl (pc0 := 65) (pc' := 21) rfl (hb hby own_d12_65) (by decide) (by decide) kt_) ?_
        refine own_by (T' := T16) (g' := (mkF m 23 #[.val (.ref a), .val (.int n), .val (.long (30000 : Int64)), .second, .val (.int ((f + (1 : Int32)) + (1 : Int32)))] [(.int ((f + (1 : Int32)) + (1 : Int32)))])) (fun _ kt_ => XS.iload X16.here hx rfl (hb hby own_d12_21) rfl kt_) ?_
        refine own_by (T' := T16) (g' := (mkF m 24 #[.val (.ref a), .val (.int n), .val (.long (30000 : Int64)), .second, .val (.int ((f + (1 : Int32)) + (1 : Int32)))] [(.int n), (.int ((f + (1 : Int32)) + (1 : Int32)))])) (fun _ kt_ => XS.iloadN X16.here hx rfl (hb hby own_d12_23) rfl kt_) ?_
        by_cases hc17 : ((f + (1 : Int32)) + (1 : Int32)) < n
        · refine own_by (T' := T16) (g' := (mkF m 27 #[.val (.ref a), .val (.int n), .val (.long (30000 : Int64)), .second, .val (.int ((f + (1 : Int32)) + (1 : Int32)))] [])) (fun _ kt_ => XS.icmpNo X16.here hx rfl (hb hby own_d12_24) rfl (XT.ii_ge_f hc17) kt_) ?_
          refine own_by (T' := T16) (g' := (mkF m 28 #[.val (.ref a), .val (.int n), .val (.long (30000 : Int64)), .second, .val (.int ((f + (1 : Int32)) + (1 : Int32)))] [(.long (30000 : Int64))])) (fun _ kt_ => XS.lloadN X16.here hx rfl (hb hby own_d12_27) rfl kt_) ?_
          refine own_by (T' := T16) (g' := (mkF m 29 #[.val (.ref a), .val (.int n), .val (.long (30000 : Int64)), .second, .val (.int ((f + (1 : Int32)) + (1 : Int32)))] [(.ref a), (.long (30000 : Int64))])) (fun _ kt_ => XS.aloadN X16.here hx rfl (hb hby own_d12_28) rfl rfl kt_) ?_
          obtain ⟨T18, X18, e18, st18⟩ := getF X16 hx hZ hown (host := "") (Or.inl (hw _ (List.mem_of_getElem? (i := 51) rfl))) Via.refl e16 F_maxTripMillis (g := (mkF m 29 #[.val (.ref a), .val (.int n), .val (.long (30000 : Int64)), .second, .val (.int ((f + (1 : Int32)) + (1 : Int32)))] [(.ref a), (.long (30000 : Int64))])) rfl rfl (hb hby own_d12_29)
          refine own_by (T' := T18) (g' := (mkF m 32 #[.val (.ref a), .val (.int n), .val (.long (30000 : Int64)), .second, .val (.int ((f + (1 : Int32)) + (1 : Int32)))] [(.long (30000 : Int64)), (.long (30000 : Int64))])) st18 ?_
          refine own_by (T' := T18) (g' := (mkF m 33 #[.val (.ref a), .val (.int n), .val (.long (30000 : Int64)), .second, .val (.int ((f + (1 : Int32)) + (1 : Int32)))] [(.int (XT.cmpL (30000 : Int64) (30000 : Int64)))])) (fun _ kt_ => XT.lcmp X18.here hx rfl (hb hby own_d12_32) rfl kt_) ?_
          refine own_by (T' := T18) (g' := (mkF m 68 #[.val (.ref a), .val (.int n), .val (.long (30000 : Int64)), .second, .val (.int ((f + (1 : Int32)) + (1 : Int32)))] [])) (fun _ kt_ => XS.ifYes X18.here hx rfl (pc0 := 33) (pc' := 68) rfl (hb hby own_d12_33) rfl (XT.ll_ge_t (by decide)) (by decide) (by decide) kt_) ?_
          refine own_by (T' := T18) (g' := (mkF m 69 #[.val (.ref a), .val (.int n), .val (.long (30000 : Int64)), .second, .val (.int ((f + (1 : Int32)) + (1 : Int32)))] [(.long (30000 : Int64))])) (fun _ kt_ => XS.lloadN X18.here hx rfl (hb hby own_d12_68) rfl kt_) ?_
          have hr19 : (30000 : Int64) = (tripF f n) := by simp [tripF, hc2, hc7, hc12, hc17]
          obtain ⟨fs20, hr20, hrun20, hended20, hW20, hsame20⟩ := X18.leave (v := some (.long (30000 : Int64))) (fun h => by rw [Bd.returns] at h; cases h)
          refine ⟨_, _, retOut X18 hx (t := .long) Bd.returns rfl (Or.inr (Or.inl ⟨rfl, rfl, _, rfl⟩)) (hb hby own_d12_69) hr20, hrun20, hended20, _, _, rfl, ?_, ⟨_, rfl⟩, hW20, hsame20.mono (by decide) (by decide)⟩
          show Q_rmTrip Z wT wX vU hvU a f n h0 n0 _ T18.heap _
          exact ⟨(congrArg (fun z => some (Value.long z)) hr19), N0, e18⟩
        · refine own_by (T' := T16) (g' := (mkF m 68 #[.val (.ref a), .val (.int n), .val (.long (30000 : Int64)), .second, .val (.int ((f + (1 : Int32)) + (1 : Int32)))] [])) (fun _ kt_ => XS.icmpYes X16.here hx rfl (pc0 := 24) (pc' := 68) rfl (hb hby own_d12_24) rfl (XT.ii_ge_t hc17) (by decide) (by decide) kt_) ?_
          refine own_by (T' := T16) (g' := (mkF m 69 #[.val (.ref a), .val (.int n), .val (.long (30000 : Int64)), .second, .val (.int ((f + (1 : Int32)) + (1 : Int32)))] [(.long (30000 : Int64))])) (fun _ kt_ => XS.lloadN X16.here hx rfl (hb hby own_d12_68) rfl kt_) ?_
          have hr21 : (30000 : Int64) = (tripF f n) := by simp [tripF, hc2, hc7, hc12, hc17]
          obtain ⟨fs22, hr22, hrun22, hended22, hW22, hsame22⟩ := X16.leave (v := some (.long (30000 : Int64))) (fun h => by rw [Bd.returns] at h; cases h)
          refine ⟨_, _, retOut X16 hx (t := .long) Bd.returns rfl (Or.inr (Or.inl ⟨rfl, rfl, _, rfl⟩)) (hb hby own_d12_69) hr22, hrun22, hended22, _, _, rfl, ?_, ⟨_, rfl⟩, hW22, hsame22.mono (by decide) (by decide)⟩
          show Q_rmTrip Z wT wX vU hvU a f n h0 n0 _ T16.heap _
          exact ⟨(congrArg (fun z => some (Value.long z)) hr21), N0, e16⟩
      · refine own_by (T' := T9) (g' := (mkF m 68 #[.val (.ref a), .val (.int n), .val (.long (20000 : Int64)), .second, .val (.int (f + (1 : Int32)))] [])) (fun _ kt_ => XS.icmpYes X9.here hx rfl (pc0 := 24) (pc' := 68) rfl (hb hby own_d12_24) rfl (XT.ii_ge_t hc12) (by decide) (by decide) kt_) ?_
        refine own_by (T' := T9) (g' := (mkF m 69 #[.val (.ref a), .val (.int n), .val (.long (20000 : Int64)), .second, .val (.int (f + (1 : Int32)))] [(.long (20000 : Int64))])) (fun _ kt_ => XS.lloadN X9.here hx rfl (hb hby own_d12_68) rfl kt_) ?_
        have hr23 : (20000 : Int64) = (tripF f n) := by simp [tripF, hc2, hc7, hc12]
        obtain ⟨fs24, hr24, hrun24, hended24, hW24, hsame24⟩ := X9.leave (v := some (.long (20000 : Int64))) (fun h => by rw [Bd.returns] at h; cases h)
        refine ⟨_, _, retOut X9 hx (t := .long) Bd.returns rfl (Or.inr (Or.inl ⟨rfl, rfl, _, rfl⟩)) (hb hby own_d12_69) hr24, hrun24, hended24, _, _, rfl, ?_, ⟨_, rfl⟩, hW24, hsame24.mono (by decide) (by decide)⟩
        show Q_rmTrip Z wT wX vU hvU a f n h0 n0 _ T9.heap _
        exact ⟨(congrArg (fun z => some (Value.long z)) hr23), N0, e9⟩
    · refine own_by (T' := T6) (g' := (mkF m 68 #[.val (.ref a), .val (.int n), .val (.long (10000 : Int64)), .second, .val (.int f)] [])) (fun _ kt_ => XS.icmpYes X6.here hx rfl (pc0 := 24) (pc' := 68) rfl (hb hby own_d12_24) rfl (XT.ii_ge_t hc7) (by decide) (by decide) kt_) ?_
      refine own_by (T' := T6) (g' := (mkF m 69 #[.val (.ref a), .val (.int n), .val (.long (10000 : Int64)), .second, .val (.int f)] [(.long (10000 : Int64))])) (fun _ kt_ => XS.lloadN X6.here hx rfl (hb hby own_d12_68) rfl kt_) ?_
      have hr25 : (10000 : Int64) = (tripF f n) := by simp [tripF, hc2, hc7]
      obtain ⟨fs26, hr26, hrun26, hended26, hW26, hsame26⟩ := X6.leave (v := some (.long (10000 : Int64))) (fun h => by rw [Bd.returns] at h; cases h)
      refine ⟨_, _, retOut X6 hx (t := .long) Bd.returns rfl (Or.inr (Or.inl ⟨rfl, rfl, _, rfl⟩)) (hb hby own_d12_69) hr26, hrun26, hended26, _, _, rfl, ?_, ⟨_, rfl⟩, hW26, hsame26.mono (by decide) (by decide)⟩
      show Q_rmTrip Z wT wX vU hvU a f n h0 n0 _ T6.heap _
      exact ⟨(congrArg (fun z => some (Value.long z)) hr25), N0, e6⟩
def maxI (a b : Int32) : Int32 := if a < b then b else a
theorem own_max1 (b : Int32) : ¬ maxI (1 : Int32) b < (1 : Int32) := by
  unfold maxI
  by_cases h : (1 : Int32) < b
  · rw [if_pos h]; exact fun q => Int32.lt_irrefl (Int32.lt_trans h q)
  · rw [if_neg h]; exact Int32.lt_irrefl
theorem own_d10_0 : decode jdk_29_method_65_code 0 = .ok (.iload_n 0, 1) := by decide +kernel
theorem own_d10_1 : decode jdk_29_method_65_code 1 = .ok (.iload_n 1, 1) := by decide +kernel
theorem own_d10_2 : decode jdk_29_method_65_code 2 = .ok (.if_icmp .lt 7, 3) := by decide +kernel
theorem own_d10_5 : decode jdk_29_method_65_code 5 = .ok (.iload_n 0, 1) := by decide +kernel
theorem own_d10_6 : decode jdk_29_method_65_code 6 = .ok (.goto 4, 3) := by decide +kernel
theorem own_d10_9 : decode jdk_29_method_65_code 9 = .ok (.iload_n 1, 1) := by decide +kernel
theorem own_d10_10 : decode jdk_29_method_65_code 10 = .ok (.ireturn, 1) := by decide +kernel
theorem own_ef_rmMax (m : MethodId) (x0 : Int32) (x1 : Int32) : entryFrame m #[(.int x0), (.int x1)] 2 = mkF m 0 #[.val (.int x0), .val (.int x1)] [] := by first | (simp [entryFrame, mkF, argsToLocals, Value.category]; done) | rfl
def Q_rmMax (Z : State) (wT : Addr) (wX : Addr) (vU : Value) (hvU : vU.isRef = true) (a : Int32) (b : Int32) (h0 : Heap) (n0 : Nat) (vv_ : Option Value) (hh_ : Heap) (LL_ : List Loc) : Prop := vv_ = some (.int (maxI a b)) ∧ Fr n0 LL_ ∧ hh_ = h0
set_option maxRecDepth 65536 in
set_option maxHeartbeats 40000000 in
theorem rmMax (l : Launch) (Z : State) (a0 : Array Value) (hw : ∀ d ∈ tables_1, d.before a0 Z = true) (ws : List Jvm.Cond) (wT : Addr) (wX : Addr) (vU : Value) (hvU : vU.isRef = true) (GS : Glob Z wT wX vU hvU) (a : Int32) (b : Int32) (h0 : Heap) (n0 : Nat) (Z0 : n0 ≤ h0.size) (O0 : Old Z n0 h0) :
    MetFree l (⟨"java/lang/Math", "max", "(II)I"⟩ : MethodName) (head1 (Jvm.Cond.code (⟨"java/lang/Math", "max", "(II)I"⟩ : MethodName) jdk_29_method_65_code 2 (some .int) :: ws) ({ frames := 0, cells := 0, slots := 0, locals := 0 } : Room)) (fun aa_ UU_ => aa_ = #[(.int a), (.int b)] ∧ Z.Warmed39 UU_.vm ∧ UU_.heap = h0) (fun _ _ _ _ _ => True) (fun _ UU_ oo_ UV_ => ∃ vv_ LL_, oo_ = .returned vv_ ∧ Q_rmMax Z wT wX vU hvU a b h0 n0 vv_ UV_.heap LL_ ∧ FrameEnd UU_ oo_ UV_ LL_ ({ frames := 0, cells := 0, slots := 0, locals := 0 } : Room).cells ({ frames := 0, cells := 0, slots := 0, locals := 0 } : Room).slots) := by
  refine MetFree.of_bodySF (Jvm.Free.JP.mathPlain rfl (by decide +kernel)) hisR ?_
  intro p e s m args below meth c s₁ Bd hml0 hP hK
  obtain ⟨rfl, hZ, hh⟩ := hP
  have hx := Bd.exec
  have hby := Bd.bytes
  have hml : c.maxLocals = 2 := hml0
  have hown : s.vm.findClass "java/lang/Math" = some m.cls := findClass_of_methodNamed Bd.named
  have hnm := (name_of_methodNamed Bd.named Bd.method).1
  have X0 : Stand p l e ({ frames := 0, cells := 0, slots := 0, locals := 0 } : Room) s m #[(.int a), (.int b)] below meth c s₁ [] 0 0 := Stand.of_body Bd
  have e0 : s₁.heap = h0 := by rw [← hh, Bd.state]; rfl
  have N0 := Fr.nil n0
  have hn0 : Z.heap.size = n0 := O0.1
  have KT0 : Keep h0 h0 [] := Keep.refl _ _
  refine own_enter (Φ := fun oo_ UV_ => ∃ vv_ LL_, oo_ = .returned vv_ ∧ Q_rmMax Z wT wX vU hvU a b h0 n0 vv_ UV_.heap LL_ ∧ FrameEnd s oo_ UV_ LL_ ({ frames := 0, cells := 0, slots := 0, locals := 0 } : Room).cells ({ frames := 0, cells := 0, slots := 0, locals := 0 } : Room).slots) (own_ef_rmMax m a b) ?_
  refine own_by (T' := s₁) (g' := (mkF m 1 #[.val (.int a), .val (.int b)] [(.int a)])) (fun _ kt_ => XS.iloadN X0.here hx rfl (hb hby own_d10_0) rfl kt_) ?_
  refine own_by (T' := s₁) (g' := (mkF m 2 #[.val (.int a), .val (.int b)] [(.int b), (.int a)])) (fun _ kt_ => XS.iloadN X0.here hx rfl (hb hby own_d10_1) rfl kt_) ?_
  by_cases hc1 : a < b
  · refine own_by (T' := s₁) (g' := (mkF m 9 #[.val (.int a), .val (.int b)] [])) (fun _ kt_ => XS.icmpYes X0.here hx rfl (pc0 := 2) (pc' := 9) rfl (hb hby own_d10_2) rfl (XT.ii_lt_t hc1) (by decide) (by decide) kt_) ?_
    refine own_by (T' := s₁) (g' := (mkF m 10 #[.val (.int a), .val (.int b)] [(.int b)])) (fun _ kt_ => XS.iloadN X0.here hx rfl (hb hby own_d10_9) rfl kt_) ?_
    have hr2 : b = (maxI a b) := by simp [maxI, hc1]
    obtain ⟨fs3, hr3, hrun3, hended3, hW3, hsame3⟩ := X0.leave (v := some (.int b)) (fun h => by rw [Bd.returns] at h; cases h)
    refine ⟨_, _, retOut X0 hx (t := .int) Bd.returns rfl (Or.inl ⟨rfl, Or.inl rfl, _, rfl⟩) (hb hby own_d10_10) hr3, hrun3, hended3, _, _, rfl, ?_, ⟨_, rfl⟩, hW3, hsame3.mono (by decide) (by decide)⟩
    show Q_rmMax Z wT wX vU hvU a b h0 n0 _ s₁.heap _
    exact ⟨(congrArg (fun z => some (Value.int z)) hr2), N0, e0⟩
  · refine own_by (T' := s₁) (g' := (mkF m 5 #[.val (.int a), .val (.int b)] [])) (fun _ kt_ => XS.icmpNo X0.here hx rfl (hb hby own_d10_2) rfl (XT.ii_lt_f hc1) kt_) ?_
    refine own_by (T' := s₁) (g' := (mkF m 6 #[.val (.int a), .val (.int b)] [(.int a)])) (fun _ kt_ => XS.iloadN X0.here hx rfl (hb hby own_d10_5) rfl kt_) ?_
    refine own_by (T' := s₁) (g' := (mkF m 10 #[.val (.int a), .val (.int b)] [(.int a)])) (fun _ kt_ => XS.goto X0.here hx rfl (pc0 := 6) (pc' := 10) rfl (hb hby own_d10_6) (by decide) (by decide) kt_) ?_
    have hr4 : a = (maxI a b) := by simp [maxI, hc1]
    obtain ⟨fs5, hr5, hrun5, hended5, hW5, hsame5⟩ := X0.leave (v := some (.int a)) (fun h => by rw [Bd.returns] at h; cases h)
    refine ⟨_, _, retOut X0 hx (t := .int) Bd.returns rfl (Or.inl ⟨rfl, Or.inl rfl, _, rfl⟩) (hb hby own_d10_10) hr5, hrun5, hended5, _, _, rfl, ?_, ⟨_, rfl⟩, hW5, hsame5.mono (by decide) (by decide)⟩
    show Q_rmMax Z wT wX vU hvU a b h0 n0 _ s₁.heap _
    exact ⟨(congrArg (fun z => some (Value.int z)) hr4), N0, e0⟩
theorem own_d13_0 : decode method_2_code 0 = .ok (.iload_n 0, 1) := by decide +kernel
theorem own_d13_1 : decode method_2_code 1 = .ok (.i2l, 1) := by decide +kernel
theorem own_d13_2 : decode method_2_code 2 = .ok (.iload_n 1, 1) := by decide +kernel
theorem own_d13_3 : decode method_2_code 3 = .ok (.i2l, 1) := by decide +kernel
theorem own_d13_4 : decode method_2_code 4 = .ok (.lsub, 1) := by decide +kernel
theorem own_d13_5 : decode method_2_code 5 = .ok (.lstore_n 2, 1) := by decide +kernel
theorem own_d13_6 : decode method_2_code 6 = .ok (.lload_n 2, 1) := by decide +kernel
theorem own_d13_7 : decode method_2_code 7 = .ok (.lconst 0, 1) := by decide +kernel
theorem own_d13_8 : decode method_2_code 8 = .ok (.lcmp, 1) := by decide +kernel
theorem own_d13_9 : decode method_2_code 9 = .ok (.ifCond .ge 5, 3) := by decide +kernel
theorem own_d13_12 : decode method_2_code 12 = .ok (.lconst 0, 1) := by decide +kernel
theorem own_d13_13 : decode method_2_code 13 = .ok (.lreturn, 1) := by decide +kernel
theorem own_d13_14 : decode method_2_code 14 = .ok (.lload_n 2, 1) := by decide +kernel
theorem own_d13_15 : decode method_2_code 15 = .ok (.lconst 0, 1) := by decide +kernel
theorem own_d13_16 : decode method_2_code 16 = .ok (.lcmp, 1) := by decide +kernel
theorem own_d13_17 : decode method_2_code 17 = .ok (.ifCond .ne 7, 3) := by decide +kernel
theorem own_d13_20 : decode method_2_code 20 = .ok (.ldc2_w 7, 3) := by decide +kernel
theorem own_d13_23 : decode method_2_code 23 = .ok (.lreturn, 1) := by decide +kernel
theorem own_d13_24 : decode method_2_code 24 = .ok (.lload_n 2, 1) := by decide +kernel
theorem own_d13_25 : decode method_2_code 25 = .ok (.lconst 1, 1) := by decide +kernel
theorem own_d13_26 : decode method_2_code 26 = .ok (.lcmp, 1) := by decide +kernel
theorem own_d13_27 : decode method_2_code 27 = .ok (.ifCond .ne 7, 3) := by decide +kernel
theorem own_d13_30 : decode method_2_code 30 = .ok (.ldc2_w 9, 3) := by decide +kernel
theorem own_d13_33 : decode method_2_code 33 = .ok (.lreturn, 1) := by decide +kernel
theorem own_d13_34 : decode method_2_code 34 = .ok (.ldc2_w 11, 3) := by decide +kernel
theorem own_d13_37 : decode method_2_code 37 = .ok (.lreturn, 1) := by decide +kernel
theorem own_pn_com_example_fairlead_fairlead_core_BreakerPolicyTripMillisPinLaw : plainName "com/example/fairlead/fairlead/core/BreakerPolicyTripMillisPinLaw" = true := by first | (simp [plainName, overriddenIn]; done) | decide +kernel
theorem own_ef_rmExp (m : MethodId) (x0 : Int32) (x1 : Int32) : entryFrame m #[(.int x0), (.int x1)] 4 = mkF m 0 #[.val (.int x0), .val (.int x1), .unset, .unset] [] := by first | (simp [entryFrame, mkF, argsToLocals, Value.category]; done) | rfl
def Q_rmExp (Z : State) (wT : Addr) (wX : Addr) (vU : Value) (hvU : vU.isRef = true) (n : Int32) (f : Int32) (h0 : Heap) (n0 : Nat) (vv_ : Option Value) (hh_ : Heap) (LL_ : List Loc) : Prop := vv_ = some (.long (expF n f)) ∧ Fr n0 LL_ ∧ hh_ = h0
set_option maxRecDepth 65536 in
set_option maxHeartbeats 40000000 in
theorem rmExp (l : Launch) (Z : State) (a0 : Array Value) (hw : ∀ d ∈ tables_1, d.before a0 Z = true) (ws : List Jvm.Cond) (wT : Addr) (wX : Addr) (vU : Value) (hvU : vU.isRef = true) (GS : Glob Z wT wX vU hvU) (n : Int32) (f : Int32) (h0 : Heap) (n0 : Nat) (Z0 : n0 ≤ h0.size) (O0 : Old Z n0 h0) :
    MetFree l (⟨"com/example/fairlead/fairlead/core/BreakerPolicyTripMillisPinLaw", "expected", "(II)J"⟩ : MethodName) (head1 (Jvm.Cond.code (⟨"com/example/fairlead/fairlead/core/BreakerPolicyTripMillisPinLaw", "expected", "(II)J"⟩ : MethodName) method_2_code 4 (some .long) :: ws) ({ frames := 0, cells := 0, slots := 0, locals := 0 } : Room)) (fun aa_ UU_ => aa_ = #[(.int n), (.int f)] ∧ Z.Warmed39 UU_.vm ∧ UU_.heap = h0) (fun _ _ _ _ _ => True) (fun _ UU_ oo_ UV_ => ∃ vv_ LL_, oo_ = .returned vv_ ∧ Q_rmExp Z wT wX vU hvU n f h0 n0 vv_ UV_.heap LL_ ∧ FrameEnd UU_ oo_ UV_ LL_ ({ frames := 0, cells := 0, slots := 0, locals := 0 } : Room).cells ({ frames := 0, cells := 0, slots := 0, locals := 0 } : Room).slots) := by
  refine MetFree.of_bodySF (plainFor_of_name own_pn_com_example_fairlead_fairlead_core_BreakerPolicyTripMillisPinLaw) hisR ?_
  intro p e s m args below meth c s₁ Bd hml0 hP hK
  obtain ⟨rfl, hZ, hh⟩ := hP
  have hx := Bd.exec
  have hby := Bd.bytes
  have hml : c.maxLocals = 4 := hml0
  have hown : s.vm.findClass "com/example/fairlead/fairlead/core/BreakerPolicyTripMillisPinLaw" = some m.cls := findClass_of_methodNamed Bd.named
  have hnm := (name_of_methodNamed Bd.named Bd.method).1
  have X0 : Stand p l e ({ frames := 0, cells := 0, slots := 0, locals := 0 } : Room) s m #[(.int n), (.int f)] below meth c s₁ [] 0 0 := Stand.of_body Bd
  have e0 : s₁.heap = h0 := by rw [← hh, Bd.state]; rfl
  have N0 := Fr.nil n0
  have hn0 : Z.heap.size = n0 := O0.1
  have KT0 : Keep h0 h0 [] := Keep.refl _ _
  refine own_enter (Φ := fun oo_ UV_ => ∃ vv_ LL_, oo_ = .returned vv_ ∧ Q_rmExp Z wT wX vU hvU n f h0 n0 vv_ UV_.heap LL_ ∧ FrameEnd s oo_ UV_ LL_ ({ frames := 0, cells := 0, slots := 0, locals := 0 } : Room).cells ({ frames := 0, cells := 0, slots := 0, locals := 0 } : Room).slots) (own_ef_rmExp m n f) ?_
  refine own_by (T' := s₁) (g' := (mkF m 1 #[.val (.int n), .val (.int f), .unset, .unset] [(.int n)])) (fun _ kt_ => XS.iloadN X0.here hx rfl (hb hby own_d13_0) rfl kt_) ?_
  refine own_by (T' := s₁) (g' := (mkF m 2 #[.val (.int n), .val (.int f), .unset, .unset] [(.long n.toInt64)])) (fun _ kt_ => XS.i2l X0.here hx rfl (hb hby own_d13_1) rfl kt_) ?_
  refine own_by (T' := s₁) (g' := (mkF m 3 #[.val (.int n), .val (.int f), .unset, .unset] [(.int f), (.long n.toInt64)])) (fun _ kt_ => XS.iloadN X0.here hx rfl (hb hby own_d13_2) rfl kt_) ?_
  refine own_by (T' := s₁) (g' := (mkF m 4 #[.val (.int n), .val (.int f), .unset, .unset] [(.long f.toInt64), (.long n.toInt64)])) (fun _ kt_ => XS.i2l X0.here hx rfl (hb hby own_d13_3) rfl kt_) ?_
  refine own_by (T' := s₁) (g' := (mkF m 5 #[.val (.int n), .val (.int f), .unset, .unset] [(.long (n.toInt64 - f.toInt64))])) (fun _ kt_ => XS.lsub X0.here hx rfl (hb hby own_d13_4) rfl kt_) ?_
  refine own_by (T' := s₁) (g' := (mkF m 6 #[.val (.int n), .val (.int f), .val (.long (n.toInt64 - f.toInt64)), .second] [])) (fun _ kt_ => XS.lstoreN X0.here hx rfl (hb hby own_d13_5) rfl (l' := #[.val (.int n), .val (.int f), .val (.long (n.toInt64 - f.toInt64)), .second]) rfl kt_) ?_
  refine own_by (T' := s₁) (g' := (mkF m 7 #[.val (.int n), .val (.int f), .val (.long (n.toInt64 - f.toInt64)), .second] [(.long (n.toInt64 - f.toInt64))])) (fun _ kt_ => XS.lloadN X0.here hx rfl (hb hby own_d13_6) rfl kt_) ?_
  refine own_by (T' := s₁) (g' := (mkF m 8 #[.val (.int n), .val (.int f), .val (.long (n.toInt64 - f.toInt64)), .second] [(.long (0 : Int64)), (.long (n.toInt64 - f.toInt64))])) (fun _ kt_ => XS.lconst X0.here hx rfl (hb hby own_d13_7) kt_) ?_
  refine own_by (T' := s₁) (g' := (mkF m 9 #[.val (.int n), .val (.int f), .val (.long (n.toInt64 - f.toInt64)), .second] [(.int (XT.cmpL (n.toInt64 - f.toInt64) (0 : Int64)))])) (fun _ kt_ => XT.lcmp X0.here hx rfl (hb hby own_d13_8) rfl kt_) ?_
  by_cases hc1 : (n.toInt64 - f.toInt64) < (0 : Int64)
  · refine own_by (T' := s₁) (g' := (mkF m 12 #[.val (.int n), .val (.int f), .val (.long (n.toInt64 - f.toInt64)), .second] [])) (fun _ kt_ => XS.ifNo X0.here hx rfl (hb hby own_d13_9) rfl (XT.ll_ge_f hc1) kt_) ?_
    refine own_by (T' := s₁) (g' := (mkF m 13 #[.val (.int n), .val (.int f), .val (.long (n.toInt64 - f.toInt64)), .second] [(.long (0 : Int64))])) (fun _ kt_ => XS.lconst X0.here hx rfl (hb hby own_d13_12) kt_) ?_
    have hr2 : (0 : Int64) = (expF n f) := by simp [expF, hc1]
    obtain ⟨fs3, hr3, hrun3, hended3, hW3, hsame3⟩ := X0.leave (v := some (.long (0 : Int64))) (fun h => by rw [Bd.returns] at h; cases h)
    refine ⟨_, _, retOut X0 hx (t := .long) Bd.returns rfl (Or.inr (Or.inl ⟨rfl, rfl, _, rfl⟩)) (hb hby own_d13_13) hr3, hrun3, hended3, _, _, rfl, ?_, ⟨_, rfl⟩, hW3, hsame3.mono (by decide) (by decide)⟩
    show Q_rmExp Z wT wX vU hvU n f h0 n0 _ s₁.heap _
    exact ⟨(congrArg (fun z => some (Value.long z)) hr2), N0, e0⟩
  · refine own_by (T' := s₁) (g' := (mkF m 14 #[.val (.int n), .val (.int f), .val (.long (n.toInt64 - f.toInt64)), .second] [])) (fun _ kt_ => XS.ifYes X0.here hx rfl (pc0 := 9) (pc' := 14) rfl (hb hby own_d13_9) rfl (XT.ll_ge_t hc1) (by decide) (by decide) kt_) ?_
    refine own_by (T' := s₁) (g' := (mkF m 15 #[.val (.int n), .val (.int f), .val (.long (n.toInt64 - f.toInt64)), .second] [(.long (n.toInt64 - f.toInt64))])) (fun _ kt_ => XS.lloadN X0.here hx rfl (hb hby own_d13_14) rfl kt_) ?_
    refine own_by (T' := s₁) (g' := (mkF m 16 #[.val (.int n), .val (.int f), .val (.long (n.toInt64 - f.toInt64)), .second] [(.long (0 : Int64)), (.long (n.toInt64 - f.toInt64))])) (fun _ kt_ => XS.lconst X0.here hx rfl (hb hby own_d13_15) kt_) ?_
    refine own_by (T' := s₁) (g' := (mkF m 17 #[.val (.int n), .val (.int f), .val (.long (n.toInt64 - f.toInt64)), .second] [(.int (XT.cmpL (n.toInt64 - f.toInt64) (0 : Int64)))])) (fun _ kt_ => XT.lcmp X0.here hx rfl (hb hby own_d13_16) rfl kt_) ?_
    by_cases hc4 : (n.toInt64 - f.toInt64) = (0 : Int64)
    · refine own_by (T' := s₁) (g' := (mkF m 20 #[.val (.int n), .val (.int f), .val (.long (n.toInt64 - f.toInt64)), .second] [])) (fun _ kt_ => XS.ifNo X0.here hx rfl (hb hby own_d13_17) rfl (XT.ll_ne_f hc4) kt_) ?_
      refine own_by (T' := s₁) (g' := (mkF m 23 #[.val (.int n), .val (.int f), .val (.long (n.toInt64 - f.toInt64)), .second] [(.long (10000 : Int64))])) (fun _ kt_ => X0.ldc2Long hx hown (mvT hZ (hw _ (List.mem_of_getElem? (i := 77) rfl))) (g := (mkF m 20 #[.val (.int n), .val (.int f), .val (.long (n.toInt64 - f.toInt64)), .second] [])) rfl (hb hby own_d13_20) _ kt_) ?_
      have hr6 : (10000 : Int64) = (expF n f) := by simp [expF, hc1, hc4]
      obtain ⟨fs7, hr7, hrun7, hended7, hW7, hsame7⟩ := X0.leave (v := some (.long (10000 : Int64))) (fun h => by rw [Bd.returns] at h; cases h)
      refine ⟨_, _, retOut X0 hx (t := .long) Bd.returns rfl (Or.inr (Or.inl ⟨rfl, rfl, _, rfl⟩)) (hb hby own_d13_23) hr7, hrun7, hended7, _, _, rfl, ?_, ⟨_, rfl⟩, hW7, hsame7.mono (by decide) (by decide)⟩
      show Q_rmExp Z wT wX vU hvU n f h0 n0 _ s₁.heap _
      exact ⟨(congrArg (fun z => some (Value.long z)) hr6), N0, e0⟩
    · refine own_by (T' := s₁) (g' := (mkF m 24 #[.val (.int n), .val (.int f), .val (.long (n.toInt64 - f.toInt64)), .second] [])) (fun _ kt_ => XS.ifYes X0.here hx rfl (pc0 := 17) (pc' := 24) rfl (hb hby own_d13_17) rfl (XT.ll_ne_t hc4) (by decide) (by decide) kt_) ?_
      refine own_by (T' := s₁) (g' := (mkF m 25 #[.val (.int n), .val (.int f), .val (.long (n.toInt64 - f.toInt64)), .second] [(.long (n.toInt64 - f.toInt64))])) (fun _ kt_ => XS.lloadN X0.here hx rfl (hb hby own_d13_24) rfl kt_) ?_
      refine own_by (T' := s₁) (g' := (mkF m 26 #[.val (.int n), .val (.int f), .val (.long (n.toInt64 - f.toInt64)), .second] [(.long (1 : Int64)), (.long (n.toInt64 - f.toInt64))])) (fun _ kt_ => XS.lconst X0.here hx rfl (hb hby own_d13_25) kt_) ?_
      refine own_by (T' := s₁) (g' := (mkF m 27 #[.val (.int n), .val (.int f), .val (.long (n.toInt64 - f.toInt64)), .second] [(.int (XT.cmpL (n.toInt64 - f.toInt64) (1 : Int64)))])) (fun _ kt_ => XT.lcmp X0.here hx rfl (hb hby own_d13_26) rfl kt_) ?_
      by_cases hc8 : (n.toInt64 - f.toInt64) = (1 : Int64)
      · refine own_by (T' := s₁) (g' := (mkF m 30 #[.val (.int n), .val (.int f), .val (.long (n.toInt64 - f.toInt64)), .second] [])) (fun _ kt_ => XS.ifNo X0.here hx rfl (hb hby own_d13_27) rfl (XT.ll_ne_f hc8) kt_) ?_
        refine own_by (T' := s₁) (g' := (mkF m 33 #[.val (.int n), .val (.int f), .val (.long (n.toInt64 - f.toInt64)), .second] [(.long (20000 : Int64))])) (fun _ kt_ => X0.ldc2Long hx hown (mvT hZ (hw _ (List.mem_of_getElem? (i := 75) rfl))) (g := (mkF m 30 #[.val (.int n), .val (.int f), .val (.long (n.toInt64 - f.toInt64)), .second] [])) rfl (hb hby own_d13_30) _ kt_) ?_
        have hr10 : (20000 : Int64) = (expF n f) := by simp [expF, hc1, hc4, hc8]
        obtain ⟨fs11, hr11, hrun11, hended11, hW11, hsame11⟩ := X0.leave (v := some (.long (20000 : Int64))) (fun h => by rw [Bd.returns] at h; cases h)
        refine ⟨_, _, retOut X0 hx (t := .long) Bd.returns rfl (Or.inr (Or.inl ⟨rfl, rfl, _, rfl⟩)) (hb hby own_d13_33) hr11, hrun11, hended11, _, _, rfl, ?_, ⟨_, rfl⟩, hW11, hsame11.mono (by decide) (by decide)⟩
        show Q_rmExp Z wT wX vU hvU n f h0 n0 _ s₁.heap _
        exact ⟨(congrArg (fun z => some (Value.long z)) hr10), N0, e0⟩
      · refine own_by (T' := s₁) (g' := (mkF m 34 #[.val (.int n), .val (.int f), .val (.long (n.toInt64 - f.toInt64)), .second] [])) (fun _ kt_ => XS.ifYes X0.here hx rfl (pc0 := 27) (pc' := 34) rfl (hb hby own_d13_27) rfl (XT.ll_ne_t hc8) (by decide) (by decide) kt_) ?_
        refine own_by (T' := s₁) (g' := (mkF m 37 #[.val (.int n), .val (.int f), .val (.long (n.toInt64 - f.toInt64)), .second] [(.long (30000 : Int64))])) (fun _ kt_ => X0.ldc2Long hx hown (mvT hZ (hw _ (List.mem_of_getElem? (i := 76) rfl))) (g := (mkF m 34 #[.val (.int n), .val (.int f), .val (.long (n.toInt64 - f.toInt64)), .second] [])) rfl (hb hby own_d13_34) _ kt_) ?_
        have hr13 : (30000 : Int64) = (expF n f) := by simp [expF, hc1, hc4, hc8]
        obtain ⟨fs14, hr14, hrun14, hended14, hW14, hsame14⟩ := X0.leave (v := some (.long (30000 : Int64))) (fun h => by rw [Bd.returns] at h; cases h)
        refine ⟨_, _, retOut X0 hx (t := .long) Bd.returns rfl (Or.inr (Or.inl ⟨rfl, rfl, _, rfl⟩)) (hb hby own_d13_37) hr14, hrun14, hended14, _, _, rfl, ?_, ⟨_, rfl⟩, hW14, hsame14.mono (by decide) (by decide)⟩
        show Q_rmExp Z wT wX vU hvU n f h0 n0 _ s₁.heap _
        exact ⟨(congrArg (fun z => some (Value.long z)) hr13), N0, e0⟩
theorem own_pd_6 : parseMethodDescriptor "()V" = some ⟨[], none⟩ := by decide +kernel
theorem own_pd_7 : parseMethodDescriptor "(II)I" = some ⟨[.int, .int], some .int⟩ := by decide +kernel
theorem own_pd_8 : parseMethodDescriptor "(I)Lcom/example/fairlead/fairlead/core/BreakerPolicy;" = some ⟨[.int], some (.object "com/example/fairlead/fairlead/core/BreakerPolicy")⟩ := by decide +kernel
theorem own_pd_9 : parseMethodDescriptor "(I)J" = some ⟨[.int], some .long⟩ := by decide +kernel
theorem own_pd_10 : parseMethodDescriptor "(II)J" = some ⟨[.int, .int], some .long⟩ := by decide +kernel
theorem own_ef_rm0 (m : MethodId) (x0 : Int32) (x1 : Int32) (x2 : Int32) : entryFrame m #[(.int x0), (.int x1), (.int x2)] maxLocals = mkF m 0 #[.val (.int x0), .val (.int x1), .val (.int x2), .unset, .unset, .unset, .unset, .unset, .unset, .unset] [] := by first | (simp [entryFrame, mkF, argsToLocals, Value.category, maxLocals]; done) | rfl
def Q_rm0 (Z : State) (wT : Addr) (wX : Addr) (vU : Value) (hvU : vU.isRef = true) (p0 : Int32) (p1 : Int32) (p2 : Int32) (h0 : Heap) (n0 : Nat) (vv_ : Option Value) (hh_ : Heap) (LL_ : List Loc) : Prop := vv_ = some (.int (1 : Int32)) ∧ Fr n0 LL_
set_option maxRecDepth 65536 in
set_option maxHeartbeats 40000000 in
theorem rm0 (l : Launch) (Z : State) (a0 : Array Value) (hw : ∀ d ∈ tables_1, d.before a0 Z = true) (ws : List Jvm.Cond) (wT : Addr) (wX : Addr) (vU : Value) (hvU : vU.isRef = true) (GS : Glob Z wT wX vU hvU) (p0 : Int32) (p1 : Int32) (p2 : Int32) (h0 : Heap) (n0 : Nat) (Z0 : n0 ≤ h0.size) (O0 : Old Z n0 h0) :
    MetFree l x (head1 (Jvm.Cond.code x code maxLocals ret :: ws) room_1) (fun aa_ UU_ => aa_ = #[(.int p0), (.int p1), (.int p2)] ∧ Z.Warmed39 UU_.vm ∧ UU_.heap = h0) (fun _ _ _ _ _ => True) (fun _ UU_ oo_ UV_ => ∃ vv_ LL_, oo_ = .returned vv_ ∧ Q_rm0 Z wT wX vU hvU p0 p1 p2 h0 n0 vv_ UV_.heap LL_ ∧ FrameEnd UU_ oo_ UV_ LL_ 2 8) := by
  refine MetFree.of_bodySF (plainFor_of_name own_pn_com_example_fairlead_fairlead_core_BreakerPolicyTripMillisPinLaw) hisR ?_
  intro p e s m args below meth c s₁ Bd hml0 hP hK
  obtain ⟨rfl, hZ, hh⟩ := hP
  have hx := Bd.exec
  have hby := Bd.bytes
  have hml : c.maxLocals = 10 := hml0
  have hown : s.vm.findClass "com/example/fairlead/fairlead/core/BreakerPolicyTripMillisPinLaw" = some m.cls := findClass_of_methodNamed Bd.named
  have hnm := (name_of_methodNamed Bd.named Bd.method).1
  have X0 : Stand p l e room_1 s m #[(.int p0), (.int p1), (.int p2)] below meth c s₁ [] 0 0 := Stand.of_body Bd
  have e0 : s₁.heap = h0 := by rw [← hh, Bd.state]; rfl
  have N0 := Fr.nil n0
  have hn0 : Z.heap.size = n0 := O0.1
  have KT0 : Keep h0 h0 [] := Keep.refl _ _
  refine own_enter (Φ := fun oo_ UV_ => ∃ vv_ LL_, oo_ = .returned vv_ ∧ Q_rm0 Z wT wX vU hvU p0 p1 p2 h0 n0 vv_ UV_.heap LL_ ∧ FrameEnd s oo_ UV_ LL_ 2 8) (own_ef_rm0 m p0 p1 p2) ?_
  refine own_by (T' := s₁) (g' := (mkF m 1 #[.val (.int p0), .val (.int p1), .val (.int p2), .unset, .unset, .unset, .unset, .unset, .unset, .unset] [(.int p2)])) (fun _ kt_ => XS.iloadN X0.here hx rfl (hb hby at_0) rfl kt_) ?_
  refine own_by (T' := s₁) (g' := (mkF m 2 #[.val (.int p0), .val (.int p1), .val (.int p2), .unset, .unset, .unset, .unset, .unset, .unset, .unset] [(.int (1 : Int32)), (.int p2)])) (fun _ kt_ => XS.iconst X0.here hx rfl (hb hby at_1) kt_) ?_
  refine own_by (T' := s₁) (g' := (mkF m 3 #[.val (.int p0), .val (.int p1), .val (.int p2), .unset, .unset, .unset, .unset, .unset, .unset, .unset] [(.int (p2 &&& (1 : Int32)))])) (fun _ kt_ => XS.iand X0.here hx rfl (hb hby at_2) rfl kt_) ?_
  by_cases hc1 : (p2 &&& (1 : Int32)) = (0 : Int32)
  · refine own_by (T' := s₁) (g' := (mkF m 10 #[.val (.int p0), .val (.int p1), .val (.int p2), .unset, .unset, .unset, .unset, .unset, .unset, .unset] [])) (fun _ kt_ => XS.ifYes X0.here hx rfl (pc0 := 3) (pc' := 10) rfl (hb hby at_3) rfl (XT.i0_eq_t hc1) (by decide) (by decide) kt_) ?_
    refine own_by (T' := s₁) (g' := (mkF m 11 #[.val (.int p0), .val (.int p1), .val (.int p2), .unset, .unset, .unset, .unset, .unset, .unset, .unset] [(.int (0 : Int32))])) (fun _ kt_ => XS.iconst X0.here hx rfl (hb hby at_10) kt_) ?_
    refine own_by (T' := s₁) (g' := (mkF m 12 #[.val (.int p0), .val (.int p1), .val (.int p2), .val (.int (0 : Int32)), .unset, .unset, .unset, .unset, .unset, .unset] [])) (fun _ kt_ => XS.istoreN X0.here hx rfl (hb hby at_11) rfl (l' := #[.val (.int p0), .val (.int p1), .val (.int p2), .val (.int (0 : Int32)), .unset, .unset, .unset, .unset, .unset, .unset]) rfl kt_) ?_
    refine own_by (T' := s₁) (g' := (mkF m 13 #[.val (.int p0), .val (.int p1), .val (.int p2), .val (.int (0 : Int32)), .unset, .unset, .unset, .unset, .unset, .unset] [(.int p2)])) (fun _ kt_ => XS.iloadN X0.here hx rfl (hb hby at_12) rfl kt_) ?_
    refine own_by (T' := s₁) (g' := (mkF m 14 #[.val (.int p0), .val (.int p1), .val (.int p2), .val (.int (0 : Int32)), .unset, .unset, .unset, .unset, .unset, .unset] [(.int (2 : Int32)), (.int p2)])) (fun _ kt_ => XS.iconst X0.here hx rfl (hb hby at_13) kt_) ?_
    refine own_by (T' := s₁) (g' := (mkF m 15 #[.val (.int p0), .val (.int p1), .val (.int p2), .val (.int (0 : Int32)), .unset, .unset, .unset, .unset, .unset, .unset] [(.int (p2 &&& (2 : Int32)))])) (fun _ kt_ => XS.iand X0.here hx rfl (hb hby at_14) rfl kt_) ?_
    by_cases hc2 : (p2 &&& (2 : Int32)) = (0 : Int32)
    · refine own_by (T' := s₁) (g' := (mkF m 22 #[.val (.int p0), .val (.int p1), .val (.int p2), .val (.int (0 : Int32)), .unset, .unset, .unset, .unset, .unset, .unset] [])) (fun _ kt_ => XS.ifYes X0.here hx rfl (pc0 := 15) (pc' := 22) rfl (hb hby at_15) rfl (XT.i0_eq_t hc2) (by decide) (by decide) kt_) ?_
      refine own_by (T' := s₁) (g' := (mkF m 23 #[.val (.int p0), .val (.int p1), .val (.int p2), .val (.int (0 : Int32)), .unset, .unset, .unset, .unset, .unset, .unset] [(.int (0 : Int32))])) (fun _ kt_ => XS.iconst X0.here hx rfl (hb hby at_22) kt_) ?_
      refine own_by (T' := s₁) (g' := (mkF m 25 #[.val (.int p0), .val (.int p1), .val (.int p2), .val (.int (0 : Int32)), .val (.int (0 : Int32)), .unset, .unset, .unset, .unset, .unset] [])) (fun _ kt_ => XS.istore X0.here hx rfl (hb hby at_23) rfl (l' := #[.val (.int p0), .val (.int p1), .val (.int p2), .val (.int (0 : Int32)), .val (.int (0 : Int32)), .unset, .unset, .unset, .unset, .unset]) rfl kt_) ?_
      obtain ⟨T3, h3, X3, e3, E3, A3, D3, -, st3⟩ := newO X0 hx hZ hown (hw _ (List.mem_of_getElem? (i := 0) rfl)) (hw _ (List.mem_of_getElem? (i := 1) rfl)) (hw _ (List.mem_of_getElem? (i := 2) rfl)) e0 (g := (mkF m 25 #[.val (.int p0), .val (.int p1), .val (.int p2), .val (.int (0 : Int32)), .val (.int (0 : Int32)), .unset, .unset, .unset, .unset, .unset] [])) rfl (hb hby at_25) (by decide) (by decide)
      obtain ⟨b3, g3⟩ : ∃ z, z = h0.size := ⟨_, rfl⟩
      rw [← g3] at A3 D3 st3
      have K4 : Keep h0 h3 [] := own_kext E3
      have zzK4 : h0.size ≤ h3.size := K4.1
      have oo5 : Old Z n0 h3 := O0.keep K4 all0
      have kt6 : Keep h0 h3 [] := KT0.trans K4 all0
      have lab3 := A3.lt
      have f7 : Fld Z h3 b3 "com/example/fairlead/fairlead/core/BreakerPolicy" "tripFailures" "I" (.int (0 : Int32)) := D3 (Or.inr (hw _ (List.mem_of_getElem? (i := 48) rfl))) (ty := .int) (by decide)
      have f8 : Fld Z h3 b3 "com/example/fairlead/fairlead/core/BreakerPolicy" "tripMillis" "J" (.long (0 : Int64)) := D3 (Or.inr (hw _ (List.mem_of_getElem? (i := 50) rfl))) (ty := .long) (by decide)
      have f9 : Fld Z h3 b3 "com/example/fairlead/fairlead/core/BreakerPolicy" "maxTripMillis" "J" (.long (0 : Int64)) := D3 (Or.inr (hw _ (List.mem_of_getElem? (i := 52) rfl))) (ty := .long) (by decide)
      have f10 : Fld Z h3 b3 "com/example/fairlead/fairlead/core/BreakerPolicy" "clock" "Ljava/time/Clock;" .null := D3 (Or.inr (hw _ (List.mem_of_getElem? (i := 54) rfl))) (ty := (.object "java/time/Clock")) (by decide)
      refine own_by (T' := T3) (g' := (mkF m 28 #[.val (.int p0), .val (.int p1), .val (.int p2), .val (.int (0 : Int32)), .val (.int (0 : Int32)), .unset, .unset, .unset, .unset, .unset] [(.ref b3)])) st3 ?_
      refine own_by (T' := T3) (g' := (mkF m 29 #[.val (.int p0), .val (.int p1), .val (.int p2), .val (.int (0 : Int32)), .val (.int (0 : Int32)), .unset, .unset, .unset, .unset, .unset] [(.ref b3), (.ref b3)])) (fun _ kt_ => XS.dup X3.here hx rfl (hb hby at_28) rfl rfl kt_) ?_
      obtain ⟨_, _, ⟨T11, L11, k11, n11⟩, -, X11, ⟨Lc11, hQ11, l11, y11, z11⟩, st11⟩ := X3.specialBack hx (y := (⟨"com/example/fairlead/fairlead/core/BreakerPolicy", "<init>", "()V"⟩ : MethodName)) rfl hown (mvT hZ (hw _ (List.mem_of_getElem? (i := 3) rfl))) (mvT hZ (hw _ (List.mem_of_getElem? (i := 4) rfl))) (mvT hZ (hw _ (List.mem_of_getElem? (i := 5) rfl))) (by decide) (backOf (W := 1) (rmI0 l Z a0 hw [] wT wX vU hvU GS b3 h3 n0 (by omega) oo5 A3 (by omega) f7 f8 f9 f10) hZ (hw _ (List.mem_of_getElem? (i := 5) rfl)) (hw _ (List.mem_of_getElem? (i := 2) rfl)) (by decide) (by decide)) (g := (mkF m 29 #[.val (.int p0), .val (.int p1), .val (.int p2), .val (.int (0 : Int32)), .val (.int (0 : Int32)), .unset, .unset, .unset, .unset, .unset] [(.ref b3), (.ref b3)])) rfl (by rw [hml]; rfl) (Steps.refl _) (a := b3) (argsL := []) (rest := [(.ref b3)]) (lenOf own_pd_6 rfl) rfl (by show 2 * 0 + _ ≤ _; exact Nat.le_of_eq rfl) (hb hby at_29) (fun _ _ => ⟨rfl, e3, (by decide : 1 + 0 ≤ _), (by decide : 4 + 0 ≤ _)⟩)
      dsimp only [Pt.U, Pt.locs, Pt.cells, Pt.slots] at X11 l11 y11 z11 st11 hQ11
      subst l11 y11 z11
      obtain ⟨rfl, N11q, K11, p11_0, p11_1, p11_2, p11_3⟩ := hQ11
      have N12 := Fr.app N0 N11q
      have zzK11 : h3.size ≤ T11.heap.size := K11.1
      have oo13 : Old Z n0 T11.heap := oo5.keep K11 (allS (by omega : n0 ≤ b3) all0)
      have kt14 : Keep h0 T11.heap [] := kt6.trans K11 (allS (Or.inr (by omega : h0.size ≤ b3)) all0)
      refine own_by (T' := T11) (g' := (mkF m 32 #[.val (.int p0), .val (.int p1), .val (.int p2), .val (.int (0 : Int32)), .val (.int (0 : Int32)), .unset, .unset, .unset, .unset, .unset] [(.ref b3)])) (fun _ kt_ => st11.trans kt_) ?_
      refine own_by (T' := T11) (g' := (mkF m 34 #[.val (.int p0), .val (.int p1), .val (.int p2), .val (.int (0 : Int32)), .val (.int (0 : Int32)), .val (.ref b3), .unset, .unset, .unset, .unset] [])) (fun _ kt_ => XS.astore X11.here hx rfl (hb hby at_32) rfl rfl (l' := #[.val (.int p0), .val (.int p1), .val (.int p2), .val (.int (0 : Int32)), .val (.int (0 : Int32)), .val (.ref b3), .unset, .unset, .unset, .unset]) rfl kt_) ?_
      refine own_by (T' := T11) (g' := (mkF m 35 #[.val (.int p0), .val (.int p1), .val (.int p2), .val (.int (0 : Int32)), .val (.int (0 : Int32)), .val (.ref b3), .unset, .unset, .unset, .unset] [(.int (0 : Int32))])) (fun _ kt_ => XS.iloadN X11.here hx rfl (hb hby at_34) rfl kt_) ?_
      refine own_by (T' := T11) (g' := (mkF m 44 #[.val (.int p0), .val (.int p1), .val (.int p2), .val (.int (0 : Int32)), .val (.int (0 : Int32)), .val (.ref b3), .unset, .unset, .unset, .unset] [])) (fun _ kt_ => XS.ifYes X11.here hx rfl (pc0 := 35) (pc' := 44) rfl (hb hby at_35) rfl (XT.i0_eq_t (by decide)) (by decide) (by decide) kt_) ?_
      refine own_by (T' := T11) (g' := (mkF m 45 #[.val (.int p0), .val (.int p1), .val (.int p2), .val (.int (0 : Int32)), .val (.int (0 : Int32)), .val (.ref b3), .unset, .unset, .unset, .unset] [(.int (1 : Int32))])) (fun _ kt_ => XS.iconst X11.here hx rfl (hb hby at_44) kt_) ?_
      refine own_by (T' := T11) (g' := (mkF m 46 #[.val (.int p0), .val (.int p1), .val (.int p2), .val (.int (0 : Int32)), .val (.int (0 : Int32)), .val (.ref b3), .unset, .unset, .unset, .unset] [(.int p1), (.int (1 : Int32))])) (fun _ kt_ => XS.iloadN X11.here hx rfl (hb hby at_45) rfl kt_) ?_
      refine own_by (T' := T11) (g' := (mkF m 48 #[.val (.int p0), .val (.int p1), .val (.int p2), .val (.int (0 : Int32)), .val (.int (0 : Int32)), .val (.ref b3), .unset, .unset, .unset, .unset] [(.int (2147483647 : Int32)), (.int p1), (.int (1 : Int32))])) (fun _ kt_ => X11.ldcInt hx hown (mvT hZ (hw _ (List.mem_of_getElem? (i := 55) rfl))) (g := (mkF m 46 #[.val (.int p0), .val (.int p1), .val (.int p2), .val (.int (0 : Int32)), .val (.int (0 : Int32)), .val (.ref b3), .unset, .unset, .unset, .unset] [(.int p1), (.int (1 : Int32))])) rfl (hb hby at_46) _ kt_) ?_
      refine own_by (T' := T11) (g' := (mkF m 49 #[.val (.int p0), .val (.int p1), .val (.int p2), .val (.int (0 : Int32)), .val (.int (0 : Int32)), .val (.ref b3), .unset, .unset, .unset, .unset] [(.int (p1 &&& (2147483647 : Int32))), (.int (1 : Int32))])) (fun _ kt_ => XS.iand X11.here hx rfl (hb hby at_48) rfl kt_) ?_
      obtain ⟨_, _, ⟨T16, L16, k16, n16⟩, -, X16, ⟨Lc16, hQ16, l16, y16, z16⟩, st16⟩ := Jvm.LawKit.callS X11 hx (y := (⟨"java/lang/Math", "max", "(II)I"⟩ : MethodName)) hown (mvT hZ (hw _ (List.mem_of_getElem? (i := 56) rfl))) (mvT hZ (hw _ (List.mem_of_getElem? (i := 57) rfl))) (mvT hZ (hw _ (List.mem_of_getElem? (i := 20) rfl))) (mvT hZ (hw _ (List.mem_of_getElem? (i := 58) rfl))) (by decide) (backOf (W := 0) (rmMax l Z a0 hw [] wT wX vU hvU GS (1 : Int32) (p1 &&& (2147483647 : Int32)) T11.heap n0 (by omega) oo13 ) hZ (hw _ (List.mem_of_getElem? (i := 58) rfl)) (hw _ (List.mem_of_getElem? (i := 20) rfl)) (by decide) (by decide)) (g := (mkF m 49 #[.val (.int p0), .val (.int p1), .val (.int p2), .val (.int (0 : Int32)), .val (.int (0 : Int32)), .val (.ref b3), .unset, .unset, .unset, .unset] [(.int (p1 &&& (2147483647 : Int32))), (.int (1 : Int32))])) rfl (by rw [hml]; rfl) (argsL := [(.int (1 : Int32)), (.int (p1 &&& (2147483647 : Int32)))]) (rest := []) (lenOf own_pd_7 rfl) rfl (by show 2 * 0 + _ ≤ _; exact Nat.le_of_eq rfl) (hb hby at_49) (fun _ _ => ⟨rfl, rfl, (by decide : 1 + 0 ≤ _), (by decide : 4 + 0 ≤ _)⟩)
      dsimp only [Pt.U, Pt.locs, Pt.cells, Pt.slots] at X16 l16 y16 z16 st16 hQ16
      subst l16 y16 z16
      obtain ⟨rfl, N16q, e16⟩ := hQ16
      have N17 := Fr.app N12 N16q
      refine own_by (T' := T16) (g' := (mkF m 52 #[.val (.int p0), .val (.int p1), .val (.int p2), .val (.int (0 : Int32)), .val (.int (0 : Int32)), .val (.ref b3), .unset, .unset, .unset, .unset] [(.int (maxI (1 : Int32) (p1 &&& (2147483647 : Int32))))])) st16 ?_
      refine own_by (T' := T16) (g' := (mkF m 54 #[.val (.int p0), .val (.int p1), .val (.int p2), .val (.int (0 : Int32)), .val (.int (0 : Int32)), .val (.ref b3), .val (.int (maxI (1 : Int32) (p1 &&& (2147483647 : Int32)))), .unset, .unset, .unset] [])) (fun _ kt_ => XS.istore X16.here hx rfl (hb hby at_52) rfl (l' := #[.val (.int p0), .val (.int p1), .val (.int p2), .val (.int (0 : Int32)), .val (.int (0 : Int32)), .val (.ref b3), .val (.int (maxI (1 : Int32) (p1 &&& (2147483647 : Int32)))), .unset, .unset, .unset]) rfl kt_) ?_
      refine own_by (T' := T16) (g' := (mkF m 56 #[.val (.int p0), .val (.int p1), .val (.int p2), .val (.int (0 : Int32)), .val (.int (0 : Int32)), .val (.ref b3), .val (.int (maxI (1 : Int32) (p1 &&& (2147483647 : Int32)))), .unset, .unset, .unset] [(.ref b3)])) (fun _ kt_ => XS.aload X16.here hx rfl (hb hby at_54) rfl rfl kt_) ?_
      refine own_by (T' := T16) (g' := (mkF m 58 #[.val (.int p0), .val (.int p1), .val (.int p2), .val (.int (0 : Int32)), .val (.int (0 : Int32)), .val (.ref b3), .val (.int (maxI (1 : Int32) (p1 &&& (2147483647 : Int32)))), .unset, .unset, .unset] [(.int (maxI (1 : Int32) (p1 &&& (2147483647 : Int32)))), (.ref b3)])) (fun _ kt_ => XS.iload X16.here hx rfl (hb hby at_56) rfl kt_) ?_
      have f19 : Exa Z T11.heap b3 "com/example/fairlead/fairlead/core/BreakerPolicy" := (A3.keep K11)
      obtain ⟨cq18, kq18, q18a, q18b, q18c⟩ := isOf hZ e16 f19
      obtain ⟨_, _, ⟨T18, L18, k18, n18⟩, -, X18, ⟨Lc18, hQ18, l18, y18, z18⟩, st18⟩ := X16.virtualBack hx (y := (⟨"com/example/fairlead/fairlead/core/BreakerPolicy", "withTripFailures", "(I)Lcom/example/fairlead/fairlead/core/BreakerPolicy;"⟩ : MethodName)) (z := (⟨"com/example/fairlead/fairlead/core/BreakerPolicy", "withTripFailures", "(I)Lcom/example/fairlead/fairlead/core/BreakerPolicy;"⟩ : MethodName)) hown (mvT hZ (hw _ (List.mem_of_getElem? (i := 59) rfl))) (mvT hZ (hw _ (List.mem_of_getElem? (i := 60) rfl))) (notFace_of_selects (args := #[]) (mvT hZ (hw _ (List.mem_of_getElem? (i := 62) rfl)))) (mvT hZ (hw _ (List.mem_of_getElem? (i := 62) rfl))) (mvT hZ (hw _ (List.mem_of_getElem? (i := 61) rfl))) (by decide) (backOf (W := 0) (rmW l Z a0 hw [] wT wX vU hvU GS b3 (maxI (1 : Int32) (p1 &&& (2147483647 : Int32))) T11.heap n0 (by omega) oo13 (own_max1 _) p11_1 p11_2 p11_3) hZ (hw _ (List.mem_of_getElem? (i := 63) rfl)) (hw _ (List.mem_of_getElem? (i := 2) rfl)) (by decide) (by decide)) q18a q18c (g := (mkF m 58 #[.val (.int p0), .val (.int p1), .val (.int p2), .val (.int (0 : Int32)), .val (.int (0 : Int32)), .val (.ref b3), .val (.int (maxI (1 : Int32) (p1 &&& (2147483647 : Int32)))), .unset, .unset, .unset] [(.int (maxI (1 : Int32) (p1 &&& (2147483647 : Int32)))), (.ref b3)])) rfl (by rw [hml]; rfl) (Steps.refl _) (argsL := [(.int (maxI (1 : Int32) (p1 &&& (2147483647 : Int32))))]) (rest := []) (lenOf own_pd_8 rfl) rfl (by show 2 * 0 + _ ≤ _; exact Nat.le_of_eq rfl) (hb hby at_58) (fun _ _ => ⟨rfl, e16, (by decide : 1 + 1 ≤ _), (by decide : 4 + 4 ≤ _)⟩)
      dsimp only [Pt.U, Pt.locs, Pt.cells, Pt.slots] at X18 l18 y18 z18 st18 hQ18
      subst l18 y18 z18
      obtain ⟨b_20, rfl, N18q, K18, p18_0, p18_1, p18_2, p18_3, p18_4, p18_5⟩ := hQ18
      have N21 := Fr.app N17 N18q
      have gb_20 : T11.heap.size ≤ b_20 := p18_0
      have zzK18 : T11.heap.size ≤ T18.heap.size := K18.1
      have oo22 : Old Z n0 T18.heap := oo13.keep K18 all0
      have kt23 : Keep h0 T18.heap [] := kt14.trans K18 all0
      refine own_by (T' := T18) (g' := (mkF m 61 #[.val (.int p0), .val (.int p1), .val (.int p2), .val (.int (0 : Int32)), .val (.int (0 : Int32)), .val (.ref b3), .val (.int (maxI (1 : Int32) (p1 &&& (2147483647 : Int32)))), .unset, .unset, .unset] [(.ref b_20)])) (fun _ kt_ => st18.trans kt_) ?_
      refine own_by (T' := T18) (g' := (mkF m 63 #[.val (.int p0), .val (.int p1), .val (.int p2), .val (.int (0 : Int32)), .val (.int (0 : Int32)), .val (.ref b_20), .val (.int (maxI (1 : Int32) (p1 &&& (2147483647 : Int32)))), .unset, .unset, .unset] [])) (fun _ kt_ => XS.astore X18.here hx rfl (hb hby at_61) rfl rfl (l' := #[.val (.int p0), .val (.int p1), .val (.int p2), .val (.int (0 : Int32)), .val (.int (0 : Int32)), .val (.ref b_20), .val (.int (maxI (1 : Int32) (p1 &&& (2147483647 : Int32)))), .unset, .unset, .unset]) rfl kt_) ?_
      refine own_by (T' := T18) (g' := (mkF m 65 #[.val (.int p0), .val (.int p1), .val (.int p2), .val (.int (0 : Int32)), .val (.int (0 : Int32)), .val (.ref b_20), .val (.int (maxI (1 : Int32) (p1 &&& (2147483647 : Int32)))), .unset, .unset, .unset] [(.int (0 : Int32))])) (fun _ kt_ => XS.iload X18.here hx rfl (hb hby at_63) rfl kt_) ?_
      refine own_by (T' := T18) (g' := (mkF m 82 #[.val (.int p0), .val (.int p1), .val (.int p2), .val (.int (0 : Int32)), .val (.int (0 : Int32)), .val (.ref b_20), .val (.int (maxI (1 : Int32) (p1 &&& (2147483647 : Int32)))), .unset, .unset, .unset] [])) (fun _ kt_ => XS.ifYes X18.here hx rfl (pc0 := 65) (pc' := 82) rfl (hb hby at_65) rfl (XT.i0_eq_t (by decide)) (by decide) (by decide) kt_) ?_
      refine own_by (T' := T18) (g' := (mkF m 83 #[.val (.int p0), .val (.int p1), .val (.int p2), .val (.int (0 : Int32)), .val (.int (0 : Int32)), .val (.ref b_20), .val (.int (maxI (1 : Int32) (p1 &&& (2147483647 : Int32)))), .unset, .unset, .unset] [(.int p0)])) (fun _ kt_ => XS.iloadN X18.here hx rfl (hb hby at_82) rfl kt_) ?_
      refine own_by (T' := T18) (g' := (mkF m 85 #[.val (.int p0), .val (.int p1), .val (.int p2), .val (.int (0 : Int32)), .val (.int (0 : Int32)), .val (.ref b_20), .val (.int (maxI (1 : Int32) (p1 &&& (2147483647 : Int32)))), .val (.int p0), .unset, .unset] [])) (fun _ kt_ => XS.istore X18.here hx rfl (hb hby at_83) rfl (l' := #[.val (.int p0), .val (.int p1), .val (.int p2), .val (.int (0 : Int32)), .val (.int (0 : Int32)), .val (.ref b_20), .val (.int (maxI (1 : Int32) (p1 &&& (2147483647 : Int32)))), .val (.int p0), .unset, .unset]) rfl kt_) ?_
      refine own_by (T' := T18) (g' := (mkF m 87 #[.val (.int p0), .val (.int p1), .val (.int p2), .val (.int (0 : Int32)), .val (.int (0 : Int32)), .val (.ref b_20), .val (.int (maxI (1 : Int32) (p1 &&& (2147483647 : Int32)))), .val (.int p0), .unset, .unset] [(.ref b_20)])) (fun _ kt_ => XS.aload X18.here hx rfl (hb hby at_85) rfl rfl kt_) ?_
      refine own_by (T' := T18) (g' := (mkF m 89 #[.val (.int p0), .val (.int p1), .val (.int p2), .val (.int (0 : Int32)), .val (.int (0 : Int32)), .val (.ref b_20), .val (.int (maxI (1 : Int32) (p1 &&& (2147483647 : Int32)))), .val (.int p0), .unset, .unset] [(.int p0), (.ref b_20)])) (fun _ kt_ => XS.iload X18.here hx rfl (hb hby at_87) rfl kt_) ?_
      obtain ⟨cq24, kq24, q24a, q24b, q24c⟩ := isOf hZ rfl p18_1
      obtain ⟨_, _, ⟨T24, L24, k24, n24⟩, -, X24, ⟨Lc24, hQ24, l24, y24, z24⟩, st24⟩ := X18.virtualBack hx (y := (⟨"com/example/fairlead/fairlead/core/BreakerPolicy", "tripMillis", "(I)J"⟩ : MethodName)) (z := (⟨"com/example/fairlead/fairlead/core/BreakerPolicy", "tripMillis", "(I)J"⟩ : MethodName)) hown (mvT hZ (hw _ (List.mem_of_getElem? (i := 65) rfl))) (mvT hZ (hw _ (List.mem_of_getElem? (i := 66) rfl))) (notFace_of_selects (args := #[]) (mvT hZ (hw _ (List.mem_of_getElem? (i := 68) rfl)))) (mvT hZ (hw _ (List.mem_of_getElem? (i := 68) rfl))) (mvT hZ (hw _ (List.mem_of_getElem? (i := 67) rfl))) (by decide) (backOf (W := 0) (rmTrip l Z a0 hw [] wT wX vU hvU GS b_20 (maxI (1 : Int32) (p1 &&& (2147483647 : Int32))) p0 T18.heap n0 (by omega) oo22 p18_2 p18_3 p18_4) hZ (hw _ (List.mem_of_getElem? (i := 69) rfl)) (hw _ (List.mem_of_getElem? (i := 2) rfl)) (by decide) (by decide)) q24a q24c (g := (mkF m 89 #[.val (.int p0), .val (.int p1), .val (.int p2), .val (.int (0 : Int32)), .val (.int (0 : Int32)), .val (.ref b_20), .val (.int (maxI (1 : Int32) (p1 &&& (2147483647 : Int32)))), .val (.int p0), .unset, .unset] [(.int p0), (.ref b_20)])) rfl (by rw [hml]; rfl) (Steps.refl _) (argsL := [(.int p0)]) (rest := []) (lenOf own_pd_9 rfl) rfl (by show 2 * 0 + _ ≤ _; exact Nat.le_of_eq rfl) (hb hby at_89) (fun _ _ => ⟨rfl, rfl, (by decide : 2 + 0 ≤ _), (by decide : 8 + 0 ≤ _)⟩)
      dsimp only [Pt.U, Pt.locs, Pt.cells, Pt.slots] at X24 l24 y24 z24 st24 hQ24
      subst l24 y24 z24
      obtain ⟨rfl, N24q, e24⟩ := hQ24
      have N25 := Fr.app N21 N24q
      refine own_by (T' := T24) (g' := (mkF m 92 #[.val (.int p0), .val (.int p1), .val (.int p2), .val (.int (0 : Int32)), .val (.int (0 : Int32)), .val (.ref b_20), .val (.int (maxI (1 : Int32) (p1 &&& (2147483647 : Int32)))), .val (.int p0), .unset, .unset] [(.long (tripF (maxI (1 : Int32) (p1 &&& (2147483647 : Int32))) p0))])) (fun _ kt_ => st24.trans kt_) ?_
      refine own_by (T' := T24) (g' := (mkF m 94 #[.val (.int p0), .val (.int p1), .val (.int p2), .val (.int (0 : Int32)), .val (.int (0 : Int32)), .val (.ref b_20), .val (.int (maxI (1 : Int32) (p1 &&& (2147483647 : Int32)))), .val (.int p0), .val (.long (tripF (maxI (1 : Int32) (p1 &&& (2147483647 : Int32))) p0)), .second] [])) (fun _ kt_ => XS.lstore X24.here hx rfl (hb hby at_92) rfl (l' := #[.val (.int p0), .val (.int p1), .val (.int p2), .val (.int (0 : Int32)), .val (.int (0 : Int32)), .val (.ref b_20), .val (.int (maxI (1 : Int32) (p1 &&& (2147483647 : Int32)))), .val (.int p0), .val (.long (tripF (maxI (1 : Int32) (p1 &&& (2147483647 : Int32))) p0)), .second]) rfl kt_) ?_
      refine own_by (T' := T24) (g' := (mkF m 96 #[.val (.int p0), .val (.int p1), .val (.int p2), .val (.int (0 : Int32)), .val (.int (0 : Int32)), .val (.ref b_20), .val (.int (maxI (1 : Int32) (p1 &&& (2147483647 : Int32)))), .val (.int p0), .val (.long (tripF (maxI (1 : Int32) (p1 &&& (2147483647 : Int32))) p0)), .second] [(.long (tripF (maxI (1 : Int32) (p1 &&& (2147483647 : Int32))) p0))])) (fun _ kt_ => XS.lload X24.here hx rfl (hb hby at_94) rfl kt_) ?_
      refine own_by (T' := T24) (g' := (mkF m 98 #[.val (.int p0), .val (.int p1), .val (.int p2), .val (.int (0 : Int32)), .val (.int (0 : Int32)), .val (.ref b_20), .val (.int (maxI (1 : Int32) (p1 &&& (2147483647 : Int32)))), .val (.int p0), .val (.long (tripF (maxI (1 : Int32) (p1 &&& (2147483647 : Int32))) p0)), .second] [(.int p0), (.long (tripF (maxI (1 : Int32) (p1 &&& (2147483647 : Int32))) p0))])) (fun _ kt_ => XS.iload X24.here hx rfl (hb hby at_96) rfl kt_) ?_
      refine own_by (T' := T24) (g' := (mkF m 100 #[.val (.int p0), .val (.int p1), .val (.int p2), .val (.int (0 : Int32)), .val (.int (0 : Int32)), .val (.ref b_20), .val (.int (maxI (1 : Int32) (p1 &&& (2147483647 : Int32)))), .val (.int p0), .val (.long (tripF (maxI (1 : Int32) (p1 &&& (2147483647 : Int32))) p0)), .second] [(.int (maxI (1 : Int32) (p1 &&& (2147483647 : Int32)))), (.int p0), (.long (tripF (maxI (1 : Int32) (p1 &&& (2147483647 : Int32))) p0))])) (fun _ kt_ => XS.iload X24.here hx rfl (hb hby at_98) rfl kt_) ?_
      obtain ⟨_, _, ⟨T26, L26, k26, n26⟩, -, X26, ⟨Lc26, hQ26, l26, y26, z26⟩, st26⟩ := Jvm.LawKit.callS X24 hx (y := (⟨"com/example/fairlead/fairlead/core/BreakerPolicyTripMillisPinLaw", "expected", "(II)J"⟩ : MethodName)) hown (mvT hZ (hw _ (List.mem_of_getElem? (i := 70) rfl))) (mvT hZ (hw _ (List.mem_of_getElem? (i := 71) rfl))) (mvT hZ (hw _ (List.mem_of_getElem? (i := 72) rfl))) (mvT hZ (hw _ (List.mem_of_getElem? (i := 73) rfl))) (by decide) (backOf (W := 2) (rmExp l Z a0 hw [] wT wX vU hvU GS p0 (maxI (1 : Int32) (p1 &&& (2147483647 : Int32))) T18.heap n0 (by omega) oo22 ) hZ (hw _ (List.mem_of_getElem? (i := 73) rfl)) (hw _ (List.mem_of_getElem? (i := 72) rfl)) (by decide) (by decide)) (g := (mkF m 100 #[.val (.int p0), .val (.int p1), .val (.int p2), .val (.int (0 : Int32)), .val (.int (0 : Int32)), .val (.ref b_20), .val (.int (maxI (1 : Int32) (p1 &&& (2147483647 : Int32)))), .val (.int p0), .val (.long (tripF (maxI (1 : Int32) (p1 &&& (2147483647 : Int32))) p0)), .second] [(.int (maxI (1 : Int32) (p1 &&& (2147483647 : Int32)))), (.int p0), (.long (tripF (maxI (1 : Int32) (p1 &&& (2147483647 : Int32))) p0))])) rfl (by rw [hml]; rfl) (argsL := [(.int p0), (.int (maxI (1 : Int32) (p1 &&& (2147483647 : Int32))))]) (rest := [(.long (tripF (maxI (1 : Int32) (p1 &&& (2147483647 : Int32))) p0))]) (lenOf own_pd_10 rfl) rfl (by show 2 * 0 + _ ≤ _; exact Nat.le_of_eq rfl) (hb hby at_100) (fun _ _ => ⟨rfl, e24, (by decide : 2 + 0 ≤ _), (by decide : 8 + 0 ≤ _)⟩)
      dsimp only [Pt.U, Pt.locs, Pt.cells, Pt.slots] at X26 l26 y26 z26 st26 hQ26
      subst l26 y26 z26
      obtain ⟨rfl, N26q, e26⟩ := hQ26
      have N27 := Fr.app N25 N26q
      refine own_by (T' := T26) (g' := (mkF m 103 #[.val (.int p0), .val (.int p1), .val (.int p2), .val (.int (0 : Int32)), .val (.int (0 : Int32)), .val (.ref b_20), .val (.int (maxI (1 : Int32) (p1 &&& (2147483647 : Int32)))), .val (.int p0), .val (.long (tripF (maxI (1 : Int32) (p1 &&& (2147483647 : Int32))) p0)), .second] [(.long (expF p0 (maxI (1 : Int32) (p1 &&& (2147483647 : Int32))))), (.long (tripF (maxI (1 : Int32) (p1 &&& (2147483647 : Int32))) p0))])) st26 ?_
      refine own_by (T' := T26) (g' := (mkF m 104 #[.val (.int p0), .val (.int p1), .val (.int p2), .val (.int (0 : Int32)), .val (.int (0 : Int32)), .val (.ref b_20), .val (.int (maxI (1 : Int32) (p1 &&& (2147483647 : Int32)))), .val (.int p0), .val (.long (tripF (maxI (1 : Int32) (p1 &&& (2147483647 : Int32))) p0)), .second] [(.int (XT.cmpL (tripF (maxI (1 : Int32) (p1 &&& (2147483647 : Int32))) p0) (expF p0 (maxI (1 : Int32) (p1 &&& (2147483647 : Int32))))))])) (fun _ kt_ => XT.lcmp X26.here hx rfl (hb hby at_103) rfl kt_) ?_
      refine own_by (T' := T26) (g' := (mkF m 107 #[.val (.int p0), .val (.int p1), .val (.int p2), .val (.int (0 : Int32)), .val (.int (0 : Int32)), .val (.ref b_20), .val (.int (maxI (1 : Int32) (p1 &&& (2147483647 : Int32)))), .val (.int p0), .val (.long (tripF (maxI (1 : Int32) (p1 &&& (2147483647 : Int32))) p0)), .second] [])) (fun _ kt_ => XS.ifNo X26.here hx rfl (hb hby at_104) rfl (XT.ll_ne_f (own_trip _ _)) kt_) ?_
      refine own_by (T' := T26) (g' := (mkF m 108 #[.val (.int p0), .val (.int p1), .val (.int p2), .val (.int (0 : Int32)), .val (.int (0 : Int32)), .val (.ref b_20), .val (.int (maxI (1 : Int32) (p1 &&& (2147483647 : Int32)))), .val (.int p0), .val (.long (tripF (maxI (1 : Int32) (p1 &&& (2147483647 : Int32))) p0)), .second] [(.int (1 : Int32))])) (fun _ kt_ => XS.iconst X26.here hx rfl (hb hby at_107) kt_) ?_
      refine own_by (T' := T26) (g' := (mkF m 112 #[.val (.int p0), .val (.int p1), .val (.int p2), .val (.int (0 : Int32)), .val (.int (0 : Int32)), .val (.ref b_20), .val (.int (maxI (1 : Int32) (p1 &&& (2147483647 : Int32)))), .val (.int p0), .val (.long (tripF (maxI (1 : Int32) (p1 &&& (2147483647 : Int32))) p0)), .second] [(.int (1 : Int32))])) (fun _ kt_ => XS.goto X26.here hx rfl (pc0 := 108) (pc' := 112) rfl (hb hby at_108) (by decide) (by decide) kt_) ?_
      have hn28 : nar .boolean (1 : Int32) = (1 : Int32) := rfl
      obtain ⟨fs29, hr29, hrun29, hended29, hW29, hsame29⟩ := X26.leave (v := some (.int (nar .boolean (1 : Int32)))) (fun h => by rw [Bd.returns] at h; cases h)
      refine ⟨_, _, retN X26 hx (t := .boolean) Bd.returns (by simp) (hb hby at_112) hr29, hrun29, hended29, _, _, rfl, ?_, ⟨_, rfl⟩, hW29, hsame29.mono (by decide) (by decide)⟩
      show Q_rm0 Z wT wX vU hvU p0 p1 p2 h0 n0 _ T26.heap _
      exact ⟨(congrArg (fun z => some (Value.int z)) hn28), N27⟩
    · refine own_by (T' := s₁) (g' := (mkF m 18 #[.val (.int p0), .val (.int p1), .val (.int p2), .val (.int (0 : Int32)), .unset, .unset, .unset, .unset, .unset, .unset] [])) (fun _ kt_ => XS.ifNo X0.here hx rfl (hb hby at_15) rfl (XT.i0_eq_f hc2) kt_) ?_
      refine own_by (T' := s₁) (g' := (mkF m 19 #[.val (.int p0), .val (.int p1), .val (.int p2), .val (.int (0 : Int32)), .unset, .unset, .unset, .unset, .unset, .unset] [(.int (1 : Int32))])) (fun _ kt_ => XS.iconst X0.here hx rfl (hb hby at_18) kt_) ?_
      refine own_by (T' := s₁) (g' := (mkF m 23 #[.val (.int p0), .val (.int p1), .val (.int p2), .val (.int (0 : Int32)), .unset, .unset, .unset, .unset, .unset, .unset] [(.int (1 : Int32))])) (fun _ kt_ => XS.goto X0.here hx rfl (pc0 := 19) (pc' := 23) rfl (hb hby at_19) (by decide) (by decide) kt_) ?_
      refine own_by (T' := s₁) (g' := (mkF m 25 #[.val (.int p0), .val (.int p1), .val (.int p2), .val (.int (0 : Int32)), .val (.int (1 : Int32)), .unset, .unset, .unset, .unset, .unset] [])) (fun _ kt_ => XS.istore X0.here hx rfl (hb hby at_23) rfl (l' := #[.val (.int p0), .val (.int p1), .val (.int p2), .val (.int (0 : Int32)), .val (.int (1 : Int32)), .unset, .unset, .unset, .unset, .unset]) rfl kt_) ?_
      obtain ⟨T30, h30, X30, e30, E30, A30, D30, -, st30⟩ := newO X0 hx hZ hown (hw _ (List.mem_of_getElem? (i := 0) rfl)) (hw _ (List.mem_of_getElem? (i := 1) rfl)) (hw _ (List.mem_of_getElem? (i := 2) rfl)) e0 (g := (mkF m 25 #[.val (.int p0), .val (.int p1), .val (.int p2), .val (.int (0 : Int32)), .val (.int (1 : Int32)), .unset, .unset, .unset, .unset, .unset] [])) rfl (hb hby at_25) (by decide) (by decide)
      obtain ⟨b30, g30⟩ : ∃ z, z = h0.size := ⟨_, rfl⟩
      rw [← g30] at A30 D30 st30
      have K31 : Keep h0 h30 [] := own_kext E30
      have zzK31 : h0.size ≤ h30.size := K31.1
      have oo32 : Old Z n0 h30 := O0.keep K31 all0
      have kt33 : Keep h0 h30 [] := KT0.trans K31 all0
      have lab30 := A30.lt
      have f34 : Fld Z h30 b30 "com/example/fairlead/fairlead/core/BreakerPolicy" "tripFailures" "I" (.int (0 : Int32)) := D30 (Or.inr (hw _ (List.mem_of_getElem? (i := 48) rfl))) (ty := .int) (by decide)
      have f35 : Fld Z h30 b30 "com/example/fairlead/fairlead/core/BreakerPolicy" "tripMillis" "J" (.long (0 : Int64)) := D30 (Or.inr (hw _ (List.mem_of_getElem? (i := 50) rfl))) (ty := .long) (by decide)
      have f36 : Fld Z h30 b30 "com/example/fairlead/fairlead/core/BreakerPolicy" "maxTripMillis" "J" (.long (0 : Int64)) := D30 (Or.inr (hw _ (List.mem_of_getElem? (i := 52) rfl))) (ty := .long) (by decide)
      have f37 : Fld Z h30 b30 "com/example/fairlead/fairlead/core/BreakerPolicy" "clock" "Ljava/time/Clock;" .null := D30 (Or.inr (hw _ (List.mem_of_getElem? (i := 54) rfl))) (ty := (.object "java/time/Clock")) (by decide)
      refine own_by (T' := T30) (g' := (mkF m 28 #[.val (.int p0), .val (.int p1), .val (.int p2), .val (.int (0 : Int32)), .val (.int (1 : Int32)), .unset, .unset, .unset, .unset, .unset] [(.ref b30)])) st30 ?_
      refine own_by (T' := T30) (g' := (mkF m 29 #[.val (.int p0), .val (.int p1), .val (.int p2), .val (.int (0 : Int32)), .val (.int (1 : Int32)), .unset, .unset, .unset, .unset, .unset] [(.ref b30), (.ref b30)])) (fun _ kt_ => XS.dup X30.here hx rfl (hb hby at_28) rfl rfl kt_) ?_
      obtain ⟨_, _, ⟨T38, L38, k38, n38⟩, -, X38, ⟨Lc38, hQ38, l38, y38, z38⟩, st38⟩ := X30.specialBack hx (y := (⟨"com/example/fairlead/fairlead/core/BreakerPolicy", "<init>", "()V"⟩ : MethodName)) rfl hown (mvT hZ (hw _ (List.mem_of_getElem? (i := 3) rfl))) (mvT hZ (hw _ (List.mem_of_getElem? (i := 4) rfl))) (mvT hZ (hw _ (List.mem_of_getElem? (i := 5) rfl))) (by decide) (backOf (W := 1) (rmI0 l Z a0 hw [] wT wX vU hvU GS b30 h30 n0 (by omega) oo32 A30 (by omega) f34 f35 f36 f37) hZ (hw _ (List.mem_of_getElem? (i := 5) rfl)) (hw _ (List.mem_of_getElem? (i := 2) rfl)) (by decide) (by decide)) (g := (mkF m 29 #[.val (.int p0), .val (.int p1), .val (.int p2), .val (.int (0 : Int32)), .val (.int (1 : Int32)), .unset, .unset, .unset, .unset, .unset] [(.ref b30), (.ref b30)])) rfl (by rw [hml]; rfl) (Steps.refl _) (a := b30) (argsL := []) (rest := [(.ref b30)]) (lenOf own_pd_6 rfl) rfl (by show 2 * 0 + _ ≤ _; exact Nat.le_of_eq rfl) (hb hby at_29) (fun _ _ => ⟨rfl, e30, (by decide : 1 + 0 ≤ _), (by decide : 4 + 0 ≤ _)⟩)
      dsimp only [Pt.U, Pt.locs, Pt.cells, Pt.slots] at X38 l38 y38 z38 st38 hQ38
      subst l38 y38 z38
      obtain ⟨rfl, N38q, K38, p38_0, p38_1, p38_2, p38_3⟩ := hQ38
      have N39 := Fr.app N0 N38q
      have zzK38 : h30.size ≤ T38.heap.size := K38.1
      have oo40 : Old Z n0 T38.heap := oo32.keep K38 (allS (by omega : n0 ≤ b30) all0)
      have kt41 : Keep h0 T38.heap [] := kt33.trans K38 (allS (Or.inr (by omega : h0.size ≤ b30)) all0)
      refine own_by (T' := T38) (g' := (mkF m 32 #[.val (.int p0), .val (.int p1), .val (.int p2), .val (.int (0 : Int32)), .val (.int (1 : Int32)), .unset, .unset, .unset, .unset, .unset] [(.ref b30)])) (fun _ kt_ => st38.trans kt_) ?_
      refine own_by (T' := T38) (g' := (mkF m 34 #[.val (.int p0), .val (.int p1), .val (.int p2), .val (.int (0 : Int32)), .val (.int (1 : Int32)), .val (.ref b30), .unset, .unset, .unset, .unset] [])) (fun _ kt_ => XS.astore X38.here hx rfl (hb hby at_32) rfl rfl (l' := #[.val (.int p0), .val (.int p1), .val (.int p2), .val (.int (0 : Int32)), .val (.int (1 : Int32)), .val (.ref b30), .unset, .unset, .unset, .unset]) rfl kt_) ?_
      refine own_by (T' := T38) (g' := (mkF m 35 #[.val (.int p0), .val (.int p1), .val (.int p2), .val (.int (0 : Int32)), .val (.int (1 : Int32)), .val (.ref b30), .unset, .unset, .unset, .unset] [(.int (0 : Int32))])) (fun _ kt_ => XS.iloadN X38.here hx rfl (hb hby at_34) rfl kt_) ?_
      refine own_by (T' := T38) (g' := (mkF m 44 #[.val (.int p0), .val (.int p1), .val (.int p2), .val (.int (0 : Int32)), .val (.int (1 : Int32)), .val (.ref b30), .unset, .unset, .unset, .unset] [])) (fun _ kt_ => XS.ifYes X38.here hx rfl (pc0 := 35) (pc' := 44) rfl (hb hby at_35) rfl (XT.i0_eq_t (by decide)) (by decide) (by decide) kt_) ?_
      refine own_by (T' := T38) (g' := (mkF m 45 #[.val (.int p0), .val (.int p1), .val (.int p2), .val (.int (0 : Int32)), .val (.int (1 : Int32)), .val (.ref b30), .unset, .unset, .unset, .unset] [(.int (1 : Int32))])) (fun _ kt_ => XS.iconst X38.here hx rfl (hb hby at_44) kt_) ?_
      refine own_by (T' := T38) (g' := (mkF m 46 #[.val (.int p0), .val (.int p1), .val (.int p2), .val (.int (0 : Int32)), .val (.int (1 : Int32)), .val (.ref b30), .unset, .unset, .unset, .unset] [(.int p1), (.int (1 : Int32))])) (fun _ kt_ => XS.iloadN X38.here hx rfl (hb hby at_45) rfl kt_) ?_
      refine own_by (T' := T38) (g' := (mkF m 48 #[.val (.int p0), .val (.int p1), .val (.int p2), .val (.int (0 : Int32)), .val (.int (1 : Int32)), .val (.ref b30), .unset, .unset, .unset, .unset] [(.int (2147483647 : Int32)), (.int p1), (.int (1 : Int32))])) (fun _ kt_ => X38.ldcInt hx hown (mvT hZ (hw _ (List.mem_of_getElem? (i := 55) rfl))) (g := (mkF m 46 #[.val (.int p0), .val (.int p1), .val (.int p2), .val (.int (0 : Int32)), .val (.int (1 : Int32)), .val (.ref b30), .unset, .unset, .unset, .unset] [(.int p1), (.int (1 : Int32))])) rfl (hb hby at_46) _ kt_) ?_
      refine own_by (T' := T38) (g' := (mkF m 49 #[.val (.int p0), .val (.int p1), .val (.int p2), .val (.int (0 : Int32)), .val (.int (1 : Int32)), .val (.ref b30), .unset, .unset, .unset, .unset] [(.int (p1 &&& (2147483647 : Int32))), (.int (1 : Int32))])) (fun _ kt_ => XS.iand X38.here hx rfl (hb hby at_48) rfl kt_) ?_
      obtain ⟨_, _, ⟨T43, L43, k43, n43⟩, -, X43, ⟨Lc43, hQ43, l43, y43, z43⟩, st43⟩ := Jvm.LawKit.callS X38 hx (y := (⟨"java/lang/Math", "max", "(II)I"⟩ : MethodName)) hown (mvT hZ (hw _ (List.mem_of_getElem? (i := 56) rfl))) (mvT hZ (hw _ (List.mem_of_getElem? (i := 57) rfl))) (mvT hZ (hw _ (List.mem_of_getElem? (i := 20) rfl))) (mvT hZ (hw _ (List.mem_of_getElem? (i := 58) rfl))) (by decide) (backOf (W := 0) (rmMax l Z a0 hw [] wT wX vU hvU GS (1 : Int32) (p1 &&& (2147483647 : Int32)) T38.heap n0 (by omega) oo40 ) hZ (hw _ (List.mem_of_getElem? (i := 58) rfl)) (hw _ (List.mem_of_getElem? (i := 20) rfl)) (by decide) (by decide)) (g := (mkF m 49 #[.val (.int p0), .val (.int p1), .val (.int p2), .val (.int (0 : Int32)), .val (.int (1 : Int32)), .val (.ref b30), .unset, .unset, .unset, .unset] [(.int (p1 &&& (2147483647 : Int32))), (.int (1 : Int32))])) rfl (by rw [hml]; rfl) (argsL := [(.int (1 : Int32)), (.int (p1 &&& (2147483647 : Int32)))]) (rest := []) (lenOf own_pd_7 rfl) rfl (by show 2 * 0 + _ ≤ _; exact Nat.le_of_eq rfl) (hb hby at_49) (fun _ _ => ⟨rfl, rfl, (by decide : 1 + 0 ≤ _), (by decide : 4 + 0 ≤ _)⟩)
      dsimp only [Pt.U, Pt.locs, Pt.cells, Pt.slots] at X43 l43 y43 z43 st43 hQ43
      subst l43 y43 z43
      obtain ⟨rfl, N43q, e43⟩ := hQ43
      have N44 := Fr.app N39 N43q
      refine own_by (T' := T43) (g' := (mkF m 52 #[.val (.int p0), .val (.int p1), .val (.int p2), .val (.int (0 : Int32)), .val (.int (1 : Int32)), .val (.ref b30), .unset, .unset, .unset, .unset] [(.int (maxI (1 : Int32) (p1 &&& (2147483647 : Int32))))])) st43 ?_
      refine own_by (T' := T43) (g' := (mkF m 54 #[.val (.int p0), .val (.int p1), .val (.int p2), .val (.int (0 : Int32)), .val (.int (1 : Int32)), .val (.ref b30), .val (.int (maxI (1 : Int32) (p1 &&& (2147483647 : Int32)))), .unset, .unset, .unset] [])) (fun _ kt_ => XS.istore X43.here hx rfl (hb hby at_52) rfl (l' := #[.val (.int p0), .val (.int p1), .val (.int p2), .val (.int (0 : Int32)), .val (.int (1 : Int32)), .val (.ref b30), .val (.int (maxI (1 : Int32) (p1 &&& (2147483647 : Int32)))), .unset, .unset, .unset]) rfl kt_) ?_
      refine own_by (T' := T43) (g' := (mkF m 56 #[.val (.int p0), .val (.int p1), .val (.int p2), .val (.int (0 : Int32)), .val (.int (1 : Int32)), .val (.ref b30), .val (.int (maxI (1 : Int32) (p1 &&& (2147483647 : Int32)))), .unset, .unset, .unset] [(.ref b30)])) (fun _ kt_ => XS.aload X43.here hx rfl (hb hby at_54) rfl rfl kt_) ?_
      refine own_by (T' := T43) (g' := (mkF m 58 #[.val (.int p0), .val (.int p1), .val (.int p2), .val (.int (0 : Int32)), .val (.int (1 : Int32)), .val (.ref b30), .val (.int (maxI (1 : Int32) (p1 &&& (2147483647 : Int32)))), .unset, .unset, .unset] [(.int (maxI (1 : Int32) (p1 &&& (2147483647 : Int32)))), (.ref b30)])) (fun _ kt_ => XS.iload X43.here hx rfl (hb hby at_56) rfl kt_) ?_
      have f46 : Exa Z T38.heap b30 "com/example/fairlead/fairlead/core/BreakerPolicy" := (A30.keep K38)
      obtain ⟨cq45, kq45, q45a, q45b, q45c⟩ := isOf hZ e43 f46
      obtain ⟨_, _, ⟨T45, L45, k45, n45⟩, -, X45, ⟨Lc45, hQ45, l45, y45, z45⟩, st45⟩ := X43.virtualBack hx (y := (⟨"com/example/fairlead/fairlead/core/BreakerPolicy", "withTripFailures", "(I)Lcom/example/fairlead/fairlead/core/BreakerPolicy;"⟩ : MethodName)) (z := (⟨"com/example/fairlead/fairlead/core/BreakerPolicy", "withTripFailures", "(I)Lcom/example/fairlead/fairlead/core/BreakerPolicy;"⟩ : MethodName)) hown (mvT hZ (hw _ (List.mem_of_getElem? (i := 59) rfl))) (mvT hZ (hw _ (List.mem_of_getElem? (i := 60) rfl))) (notFace_of_selects (args := #[]) (mvT hZ (hw _ (List.mem_of_getElem? (i := 62) rfl)))) (mvT hZ (hw _ (List.mem_of_getElem? (i := 62) rfl))) (mvT hZ (hw _ (List.mem_of_getElem? (i := 61) rfl))) (by decide) (backOf (W := 0) (rmW l Z a0 hw [] wT wX vU hvU GS b30 (maxI (1 : Int32) (p1 &&& (2147483647 : Int32))) T38.heap n0 (by omega) oo40 (own_max1 _) p38_1 p38_2 p38_3) hZ (hw _ (List.mem_of_getElem? (i := 63) rfl)) (hw _ (List.mem_of_getElem? (i := 2) rfl)) (by decide) (by decide)) q45a q45c (g := (mkF m 58 #[.val (.int p0), .val (.int p1), .val (.int p2), .val (.int (0 : Int32)), .val (.int (1 : Int32)), .val (.ref b30), .val (.int (maxI (1 : Int32) (p1 &&& (2147483647 : Int32)))), .unset, .unset, .unset] [(.int (maxI (1 : Int32) (p1 &&& (2147483647 : Int32)))), (.ref b30)])) rfl (by rw [hml]; rfl) (Steps.refl _) (argsL := [(.int (maxI (1 : Int32) (p1 &&& (2147483647 : Int32))))]) (rest := []) (lenOf own_pd_8 rfl) rfl (by show 2 * 0 + _ ≤ _; exact Nat.le_of_eq rfl) (hb hby at_58) (fun _ _ => ⟨rfl, e43, (by decide : 1 + 1 ≤ _), (by decide : 4 + 4 ≤ _)⟩)
      dsimp only [Pt.U, Pt.locs, Pt.cells, Pt.slots] at X45 l45 y45 z45 st45 hQ45
      subst l45 y45 z45
      obtain ⟨b_47, rfl, N45q, K45, p45_0, p45_1, p45_2, p45_3, p45_4, p45_5⟩ := hQ45
      have N48 := Fr.app N44 N45q
      have gb_47 : T38.heap.size ≤ b_47 := p45_0
      have zzK45 : T38.heap.size ≤ T45.heap.size := K45.1
      have oo49 : Old Z n0 T45.heap := oo40.keep K45 all0
      have kt50 : Keep h0 T45.heap [] := kt41.trans K45 all0
      refine own_by (T' := T45) (g' := (mkF m 61 #[.val (.int p0), .val (.int p1), .val (.int p2), .val (.int (0 : Int32)), .val (.int (1 : Int32)), .val (.ref b30), .val (.int (maxI (1 : Int32) (p1 &&& (2147483647 : Int32)))), .unset, .unset, .unset] [(.ref b_47)])) (fun _ kt_ => st45.trans kt_) ?_
      refine own_by (T' := T45) (g' := (mkF m 63 #[.val (.int p0), .val (.int p1), .val (.int p2), .val (.int (0 : Int32)), .val (.int (1 : Int32)), .val (.ref b_47), .val (.int (maxI (1 : Int32) (p1 &&& (2147483647 : Int32)))), .unset, .unset, .unset] [])) (fun _ kt_ => XS.astore X45.here hx rfl (hb hby at_61) rfl rfl (l' := #[.val (.int p0), .val (.int p1), .val (.int p2), .val (.int (0 : Int32)), .val (.int (1 : Int32)), .val (.ref b_47), .val (.int (maxI (1 : Int32) (p1 &&& (2147483647 : Int32)))), .unset, .unset, .unset]) rfl kt_) ?_
      refine own_by (T' := T45) (g' := (mkF m 65 #[.val (.int p0), .val (.int p1), .val (.int p2), .val (.int (0 : Int32)), .val (.int (1 : Int32)), .val (.ref b_47), .val (.int (maxI (1 : Int32) (p1 &&& (2147483647 : Int32)))), .unset, .unset, .unset] [(.int (1 : Int32))])) (fun _ kt_ => XS.iload X45.here hx rfl (hb hby at_63) rfl kt_) ?_
      refine own_by (T' := T45) (g' := (mkF m 68 #[.val (.int p0), .val (.int p1), .val (.int p2), .val (.int (0 : Int32)), .val (.int (1 : Int32)), .val (.ref b_47), .val (.int (maxI (1 : Int32) (p1 &&& (2147483647 : Int32)))), .unset, .unset, .unset] [])) (fun _ kt_ => XS.ifNo X45.here hx rfl (hb hby at_65) rfl (XT.i0_eq_f (by decide)) kt_) ?_
      refine own_by (T' := T45) (g' := (mkF m 70 #[.val (.int p0), .val (.int p1), .val (.int p2), .val (.int (0 : Int32)), .val (.int (1 : Int32)), .val (.ref b_47), .val (.int (maxI (1 : Int32) (p1 &&& (2147483647 : Int32)))), .unset, .unset, .unset] [(.int (maxI (1 : Int32) (p1 &&& (2147483647 : Int32))))])) (fun _ kt_ => XS.iload X45.here hx rfl (hb hby at_68) rfl kt_) ?_
      refine own_by (T' := T45) (g' := (mkF m 71 #[.val (.int p0), .val (.int p1), .val (.int p2), .val (.int (0 : Int32)), .val (.int (1 : Int32)), .val (.ref b_47), .val (.int (maxI (1 : Int32) (p1 &&& (2147483647 : Int32)))), .unset, .unset, .unset] [(.int p0), (.int (maxI (1 : Int32) (p1 &&& (2147483647 : Int32))))])) (fun _ kt_ => XS.iloadN X45.here hx rfl (hb hby at_70) rfl kt_) ?_
      refine own_by (T' := T45) (g' := (mkF m 73 #[.val (.int p0), .val (.int p1), .val (.int p2), .val (.int (0 : Int32)), .val (.int (1 : Int32)), .val (.ref b_47), .val (.int (maxI (1 : Int32) (p1 &&& (2147483647 : Int32)))), .unset, .unset, .unset] [(.int (7 : Int32)), (.int p0), (.int (maxI (1 : Int32) (p1 &&& (2147483647 : Int32))))])) (fun _ kt_ => XS.bipush X45.here hx rfl (hb hby at_71) kt_) ?_
      refine own_by (T' := T45) (g' := (mkF m 74 #[.val (.int p0), .val (.int p1), .val (.int p2), .val (.int (0 : Int32)), .val (.int (1 : Int32)), .val (.ref b_47), .val (.int (maxI (1 : Int32) (p1 &&& (2147483647 : Int32)))), .unset, .unset, .unset] [(.int (p0 &&& (7 : Int32))), (.int (maxI (1 : Int32) (p1 &&& (2147483647 : Int32))))])) (fun _ kt_ => XS.iand X45.here hx rfl (hb hby at_73) rfl kt_) ?_
      refine own_by (T' := T45) (g' := (mkF m 75 #[.val (.int p0), .val (.int p1), .val (.int p2), .val (.int (0 : Int32)), .val (.int (1 : Int32)), .val (.ref b_47), .val (.int (maxI (1 : Int32) (p1 &&& (2147483647 : Int32)))), .unset, .unset, .unset] [(.int ((maxI (1 : Int32) (p1 &&& (2147483647 : Int32))) + (p0 &&& (7 : Int32))))])) (fun _ kt_ => XS.iadd X45.here hx rfl (hb hby at_74) rfl kt_) ?_
      refine own_by (T' := T45) (g' := (mkF m 76 #[.val (.int p0), .val (.int p1), .val (.int p2), .val (.int (0 : Int32)), .val (.int (1 : Int32)), .val (.ref b_47), .val (.int (maxI (1 : Int32) (p1 &&& (2147483647 : Int32)))), .unset, .unset, .unset] [(.int (3 : Int32)), (.int ((maxI (1 : Int32) (p1 &&& (2147483647 : Int32))) + (p0 &&& (7 : Int32))))])) (fun _ kt_ => XS.iconst X45.here hx rfl (hb hby at_75) kt_) ?_
      refine own_by (T' := T45) (g' := (mkF m 77 #[.val (.int p0), .val (.int p1), .val (.int p2), .val (.int (0 : Int32)), .val (.int (1 : Int32)), .val (.ref b_47), .val (.int (maxI (1 : Int32) (p1 &&& (2147483647 : Int32)))), .unset, .unset, .unset] [(.int (((maxI (1 : Int32) (p1 &&& (2147483647 : Int32))) + (p0 &&& (7 : Int32))) - (3 : Int32)))])) (fun _ kt_ => XS.isub X45.here hx rfl (hb hby at_76) rfl kt_) ?_
      refine own_by (T' := T45) (g' := (mkF m 79 #[.val (.int p0), .val (.int p1), .val (.int p2), .val (.int (0 : Int32)), .val (.int (1 : Int32)), .val (.ref b_47), .val (.int (maxI (1 : Int32) (p1 &&& (2147483647 : Int32)))), .val (.int (((maxI (1 : Int32) (p1 &&& (2147483647 : Int32))) + (p0 &&& (7 : Int32))) - (3 : Int32))), .unset, .unset] [])) (fun _ kt_ => XS.istore X45.here hx rfl (hb hby at_77) rfl (l' := #[.val (.int p0), .val (.int p1), .val (.int p2), .val (.int (0 : Int32)), .val (.int (1 : Int32)), .val (.ref b_47), .val (.int (maxI (1 : Int32) (p1 &&& (2147483647 : Int32)))), .val (.int (((maxI (1 : Int32) (p1 &&& (2147483647 : Int32))) + (p0 &&& (7 : Int32))) - (3 : Int32))), .unset, .unset]) rfl kt_) ?_
      refine own_by (T' := T45) (g' := (mkF m 85 #[.val (.int p0), .val (.int p1), .val (.int p2), .val (.int (0 : Int32)), .val (.int (1 : Int32)), .val (.ref b_47), .val (.int (maxI (1 : Int32) (p1 &&& (2147483647 : Int32)))), .val (.int (((maxI (1 : Int32) (p1 &&& (2147483647 : Int32))) + (p0 &&& (7 : Int32))) - (3 : Int32))), .unset, .unset] [])) (fun _ kt_ => XS.goto X45.here hx rfl (pc0 := 79) (pc' := 85) rfl (hb hby at_79) (by decide) (by decide) kt_) ?_
      refine own_by (T' := T45) (g' := (mkF m 87 #[.val (.int p0), .val (.int p1), .val (.int p2), .val (.int (0 : Int32)), .val (.int (1 : Int32)), .val (.ref b_47), .val (.int (maxI (1 : Int32) (p1 &&& (2147483647 : Int32)))), .val (.int (((maxI (1 : Int32) (p1 &&& (2147483647 : Int32))) + (p0 &&& (7 : Int32))) - (3 : Int32))), .unset, .unset] [(.ref b_47)])) (fun _ kt_ => XS.aload X45.here hx rfl (hb hby at_85) rfl rfl kt_) ?_
      refine own_by (T' := T45) (g' := (mkF m 89 #[.val (.int p0), .val (.int p1), .val (.int p2), .val (.int (0 : Int32)), .val (.int (1 : Int32)), .val (.ref b_47), .val (.int (maxI (1 : Int32) (p1 &&& (2147483647 : Int32)))), .val (.int (((maxI (1 : Int32) (p1 &&& (2147483647 : Int32))) + (p0 &&& (7 : Int32))) - (3 : Int32))), .unset, .unset] [(.int (((maxI (1 : Int32) (p1 &&& (2147483647 : Int32))) + (p0 &&& (7 : Int32))) - (3 : Int32))), (.ref b_47)])) (fun _ kt_ => XS.iload X45.here hx rfl (hb hby at_87) rfl kt_) ?_
      obtain ⟨cq51, kq51, q51a, q51b, q51c⟩ := isOf hZ rfl p45_1
      obtain ⟨_, _, ⟨T51, L51, k51, n51⟩, -, X51, ⟨Lc51, hQ51, l51, y51, z51⟩, st51⟩ := X45.virtualBack hx (y := (⟨"com/example/fairlead/fairlead/core/BreakerPolicy", "tripMillis", "(I)J"⟩ : MethodName)) (z := (⟨"com/example/fairlead/fairlead/core/BreakerPolicy", "tripMillis", "(I)J"⟩ : MethodName)) hown (mvT hZ (hw _ (List.mem_of_getElem? (i := 65) rfl))) (mvT hZ (hw _ (List.mem_of_getElem? (i := 66) rfl))) (notFace_of_selects (args := #[]) (mvT hZ (hw _ (List.mem_of_getElem? (i := 68) rfl)))) (mvT hZ (hw _ (List.mem_of_getElem? (i := 68) rfl))) (mvT hZ (hw _ (List.mem_of_getElem? (i := 67) rfl))) (by decide) (backOf (W := 0) (rmTrip l Z a0 hw [] wT wX vU hvU GS b_47 (maxI (1 : Int32) (p1 &&& (2147483647 : Int32))) (((maxI (1 : Int32) (p1 &&& (2147483647 : Int32))) + (p0 &&& (7 : Int32))) - (3 : Int32)) T45.heap n0 (by omega) oo49 p45_2 p45_3 p45_4) hZ (hw _ (List.mem_of_getElem? (i := 69) rfl)) (hw _ (List.mem_of_getElem? (i := 2) rfl)) (by decide) (by decide)) q51a q51c (g := (mkF m 89 #[.val (.int p0), .val (.int p1), .val (.int p2), .val (.int (0 : Int32)), .val (.int (1 : Int32)), .val (.ref b_47), .val (.int (maxI (1 : Int32) (p1 &&& (2147483647 : Int32)))), .val (.int (((maxI (1 : Int32) (p1 &&& (2147483647 : Int32))) + (p0 &&& (7 : Int32))) - (3 : Int32))), .unset, .unset] [(.int (((maxI (1 : Int32) (p1 &&& (2147483647 : Int32))) + (p0 &&& (7 : Int32))) - (3 : Int32))), (.ref b_47)])) rfl (by rw [hml]; rfl) (Steps.refl _) (argsL := [(.int (((maxI (1 : Int32) (p1 &&& (2147483647 : Int32))) + (p0 &&& (7 : Int32))) - (3 : Int32)))]) (rest := []) (lenOf own_pd_9 rfl) rfl (by show 2 * 0 + _ ≤ _; exact Nat.le_of_eq rfl) (hb hby at_89) (fun _ _ => ⟨rfl, rfl, (by decide : 2 + 0 ≤ _), (by decide : 8 + 0 ≤ _)⟩)
      dsimp only [Pt.U, Pt.locs, Pt.cells, Pt.slots] at X51 l51 y51 z51 st51 hQ51
      subst l51 y51 z51
      obtain ⟨rfl, N51q, e51⟩ := hQ51
      have N52 := Fr.app N48 N51q
      refine own_by (T' := T51) (g' := (mkF m 92 #[.val (.int p0), .val (.int p1), .val (.int p2), .val (.int (0 : Int32)), .val (.int (1 : Int32)), .val (.ref b_47), .val (.int (maxI (1 : Int32) (p1 &&& (2147483647 : Int32)))), .val (.int (((maxI (1 : Int32) (p1 &&& (2147483647 : Int32))) + (p0 &&& (7 : Int32))) - (3 : Int32))), .unset, .unset] [(.long (tripF (maxI (1 : Int32) (p1 &&& (2147483647 : Int32))) (((maxI (1 : Int32) (p1 &&& (2147483647 : Int32))) + (p0 &&& (7 : Int32))) - (3 : Int32))))])) (fun _ kt_ => st51.trans kt_) ?_
      refine own_by (T' := T51) (g' := (mkF m 94 #[.val (.int p0), .val (.int p1), .val (.int p2), .val (.int (0 : Int32)), .val (.int (1 : Int32)), .val (.ref b_47), .val (.int (maxI (1 : Int32) (p1 &&& (2147483647 : Int32)))), .val (.int (((maxI (1 : Int32) (p1 &&& (2147483647 : Int32))) + (p0 &&& (7 : Int32))) - (3 : Int32))), .val (.long (tripF (maxI (1 : Int32) (p1 &&& (2147483647 : Int32))) (((maxI (1 : Int32) (p1 &&& (2147483647 : Int32))) + (p0 &&& (7 : Int32))) - (3 : Int32)))), .second] [])) (fun _ kt_ => XS.lstore X51.here hx rfl (hb hby at_92) rfl (l' := #[.val (.int p0), .val (.int p1), .val (.int p2), .val (.int (0 : Int32)), .val (.int (1 : Int32)), .val (.ref b_47), .val (.int (maxI (1 : Int32) (p1 &&& (2147483647 : Int32)))), .val (.int (((maxI (1 : Int32) (p1 &&& (2147483647 : Int32))) + (p0 &&& (7 : Int32))) - (3 : Int32))), .val (.long (tripF (maxI (1 : Int32) (p1 &&& (2147483647 : Int32))) (((maxI (1 : Int32) (p1 &&& (2147483647 : Int32))) + (p0 &&& (7 : Int32))) - (3 : Int32)))), .second]) rfl kt_) ?_
      refine own_by (T' := T51) (g' := (mkF m 96 #[.val (.int p0), .val (.int p1), .val (.int p2), .val (.int (0 : Int32)), .val (.int (1 : Int32)), .val (.ref b_47), .val (.int (maxI (1 : Int32) (p1 &&& (2147483647 : Int32)))), .val (.int (((maxI (1 : Int32) (p1 &&& (2147483647 : Int32))) + (p0 &&& (7 : Int32))) - (3 : Int32))), .val (.long (tripF (maxI (1 : Int32) (p1 &&& (2147483647 : Int32))) (((maxI (1 : Int32) (p1 &&& (2147483647 : Int32))) + (p0 &&& (7 : Int32))) - (3 : Int32)))), .second] [(.long (tripF (maxI (1 : Int32) (p1 &&& (2147483647 : Int32))) (((maxI (1 : Int32) (p1 &&& (2147483647 : Int32))) + (p0 &&& (7 : Int32))) - (3 : Int32))))])) (fun _ kt_ => XS.lload X51.here hx rfl (hb hby at_94) rfl kt_) ?_
      refine own_by (T' := T51) (g' := (mkF m 98 #[.val (.int p0), .val (.int p1), .val (.int p2), .val (.int (0 : Int32)), .val (.int (1 : Int32)), .val (.ref b_47), .val (.int (maxI (1 : Int32) (p1 &&& (2147483647 : Int32)))), .val (.int (((maxI (1 : Int32) (p1 &&& (2147483647 : Int32))) + (p0 &&& (7 : Int32))) - (3 : Int32))), .val (.long (tripF (maxI (1 : Int32) (p1 &&& (2147483647 : Int32))) (((maxI (1 : Int32) (p1 &&& (2147483647 : Int32))) + (p0 &&& (7 : Int32))) - (3 : Int32)))), .second] [(.int (((maxI (1 : Int32) (p1 &&& (2147483647 : Int32))) + (p0 &&& (7 : Int32))) - (3 : Int32))), (.long (tripF (maxI (1 : Int32) (p1 &&& (2147483647 : Int32))) (((maxI (1 : Int32) (p1 &&& (2147483647 : Int32))) + (p0 &&& (7 : Int32))) - (3 : Int32))))])) (fun _ kt_ => XS.iload X51.here hx rfl (hb hby at_96) rfl kt_) ?_
      refine own_by (T' := T51) (g' := (mkF m 100 #[.val (.int p0), .val (.int p1), .val (.int p2), .val (.int (0 : Int32)), .val (.int (1 : Int32)), .val (.ref b_47), .val (.int (maxI (1 : Int32) (p1 &&& (2147483647 : Int32)))), .val (.int (((maxI (1 : Int32) (p1 &&& (2147483647 : Int32))) + (p0 &&& (7 : Int32))) - (3 : Int32))), .val (.long (tripF (maxI (1 : Int32) (p1 &&& (2147483647 : Int32))) (((maxI (1 : Int32) (p1 &&& (2147483647 : Int32))) + (p0 &&& (7 : Int32))) - (3 : Int32)))), .second] [(.int (maxI (1 : Int32) (p1 &&& (2147483647 : Int32)))), (.int (((maxI (1 : Int32) (p1 &&& (2147483647 : Int32))) + (p0 &&& (7 : Int32))) - (3 : Int32))), (.long (tripF (maxI (1 : Int32) (p1 &&& (2147483647 : Int32))) (((maxI (1 : Int32) (p1 &&& (2147483647 : Int32))) + (p0 &&& (7 : Int32))) - (3 : Int32))))])) (fun _ kt_ => XS.iload X51.here hx rfl (hb hby at_98) rfl kt_) ?_
      obtain ⟨_, _, ⟨T53, L53, k53, n53⟩, -, X53, ⟨Lc53, hQ53, l53, y53, z53⟩, st53⟩ := Jvm.LawKit.callS X51 hx (y := (⟨"com/example/fairlead/fairlead/core/BreakerPolicyTripMillisPinLaw", "expected", "(II)J"⟩ : MethodName)) hown (mvT hZ (hw _ (List.mem_of_getElem? (i := 70) rfl))) (mvT hZ (hw _ (List.mem_of_getElem? (i := 71) rfl))) (mvT hZ (hw _ (List.mem_of_getElem? (i := 72) rfl))) (mvT hZ (hw _ (List.mem_of_getElem? (i := 73) rfl))) (by decide) (backOf (W := 2) (rmExp l Z a0 hw [] wT wX vU hvU GS (((maxI (1 : Int32) (p1 &&& (2147483647 : Int32))) + (p0 &&& (7 : Int32))) - (3 : Int32)) (maxI (1 : Int32) (p1 &&& (2147483647 : Int32))) T45.heap n0 (by omega) oo49 ) hZ (hw _ (List.mem_of_getElem? (i := 73) rfl)) (hw _ (List.mem_of_getElem? (i := 72) rfl)) (by decide) (by decide)) (g := (mkF m 100 #[.val (.int p0), .val (.int p1), .val (.int p2), .val (.int (0 : Int32)), .val (.int (1 : Int32)), .val (.ref b_47), .val (.int (maxI (1 : Int32) (p1 &&& (2147483647 : Int32)))), .val (.int (((maxI (1 : Int32) (p1 &&& (2147483647 : Int32))) + (p0 &&& (7 : Int32))) - (3 : Int32))), .val (.long (tripF (maxI (1 : Int32) (p1 &&& (2147483647 : Int32))) (((maxI (1 : Int32) (p1 &&& (2147483647 : Int32))) + (p0 &&& (7 : Int32))) - (3 : Int32)))), .second] [(.int (maxI (1 : Int32) (p1 &&& (2147483647 : Int32)))), (.int (((maxI (1 : Int32) (p1 &&& (2147483647 : Int32))) + (p0 &&& (7 : Int32))) - (3 : Int32))), (.long (tripF (maxI (1 : Int32) (p1 &&& (2147483647 : Int32))) (((maxI (1 : Int32) (p1 &&& (2147483647 : Int32))) + (p0 &&& (7 : Int32))) - (3 : Int32))))])) rfl (by rw [hml]; rfl) (argsL := [(.int (((maxI (1 : Int32) (p1 &&& (2147483647 : Int32))) + (p0 &&& (7 : Int32))) - (3 : Int32))), (.int (maxI (1 : Int32) (p1 &&& (2147483647 : Int32))))]) (rest := [(.long (tripF (maxI (1 : Int32) (p1 &&& (2147483647 : Int32))) (((maxI (1 : Int32) (p1 &&& (2147483647 : Int32))) + (p0 &&& (7 : Int32))) - (3 : Int32))))]) (lenOf own_pd_10 rfl) rfl (by show 2 * 0 + _ ≤ _; exact Nat.le_of_eq rfl) (hb hby at_100) (fun _ _ => ⟨rfl, e51, (by decide : 2 + 0 ≤ _), (by decide : 8 + 0 ≤ _)⟩)
      dsimp only [Pt.U, Pt.locs, Pt.cells, Pt.slots] at X53 l53 y53 z53 st53 hQ53
      subst l53 y53 z53
      obtain ⟨rfl, N53q, e53⟩ := hQ53
      have N54 := Fr.app N52 N53q
      refine own_by (T' := T53) (g' := (mkF m 103 #[.val (.int p0), .val (.int p1), .val (.int p2), .val (.int (0 : Int32)), .val (.int (1 : Int32)), .val (.ref b_47), .val (.int (maxI (1 : Int32) (p1 &&& (2147483647 : Int32)))), .val (.int (((maxI (1 : Int32) (p1 &&& (2147483647 : Int32))) + (p0 &&& (7 : Int32))) - (3 : Int32))), .val (.long (tripF (maxI (1 : Int32) (p1 &&& (2147483647 : Int32))) (((maxI (1 : Int32) (p1 &&& (2147483647 : Int32))) + (p0 &&& (7 : Int32))) - (3 : Int32)))), .second] [(.long (expF (((maxI (1 : Int32) (p1 &&& (2147483647 : Int32))) + (p0 &&& (7 : Int32))) - (3 : Int32)) (maxI (1 : Int32) (p1 &&& (2147483647 : Int32))))), (.long (tripF (maxI (1 : Int32) (p1 &&& (2147483647 : Int32))) (((maxI (1 : Int32) (p1 &&& (2147483647 : Int32))) + (p0 &&& (7 : Int32))) - (3 : Int32))))])) st53 ?_
      refine own_by (T' := T53) (g' := (mkF m 104 #[.val (.int p0), .val (.int p1), .val (.int p2), .val (.int (0 : Int32)), .val (.int (1 : Int32)), .val (.ref b_47), .val (.int (maxI (1 : Int32) (p1 &&& (2147483647 : Int32)))), .val (.int (((maxI (1 : Int32) (p1 &&& (2147483647 : Int32))) + (p0 &&& (7 : Int32))) - (3 : Int32))), .val (.long (tripF (maxI (1 : Int32) (p1 &&& (2147483647 : Int32))) (((maxI (1 : Int32) (p1 &&& (2147483647 : Int32))) + (p0 &&& (7 : Int32))) - (3 : Int32)))), .second] [(.int (XT.cmpL (tripF (maxI (1 : Int32) (p1 &&& (2147483647 : Int32))) (((maxI (1 : Int32) (p1 &&& (2147483647 : Int32))) + (p0 &&& (7 : Int32))) - (3 : Int32))) (expF (((maxI (1 : Int32) (p1 &&& (2147483647 : Int32))) + (p0 &&& (7 : Int32))) - (3 : Int32)) (maxI (1 : Int32) (p1 &&& (2147483647 : Int32))))))])) (fun _ kt_ => XT.lcmp X53.here hx rfl (hb hby at_103) rfl kt_) ?_
      refine own_by (T' := T53) (g' := (mkF m 107 #[.val (.int p0), .val (.int p1), .val (.int p2), .val (.int (0 : Int32)), .val (.int (1 : Int32)), .val (.ref b_47), .val (.int (maxI (1 : Int32) (p1 &&& (2147483647 : Int32)))), .val (.int (((maxI (1 : Int32) (p1 &&& (2147483647 : Int32))) + (p0 &&& (7 : Int32))) - (3 : Int32))), .val (.long (tripF (maxI (1 : Int32) (p1 &&& (2147483647 : Int32))) (((maxI (1 : Int32) (p1 &&& (2147483647 : Int32))) + (p0 &&& (7 : Int32))) - (3 : Int32)))), .second] [])) (fun _ kt_ => XS.ifNo X53.here hx rfl (hb hby at_104) rfl (XT.ll_ne_f (own_trip _ _)) kt_) ?_
      refine own_by (T' := T53) (g' := (mkF m 108 #[.val (.int p0), .val (.int p1), .val (.int p2), .val (.int (0 : Int32)), .val (.int (1 : Int32)), .val (.ref b_47), .val (.int (maxI (1 : Int32) (p1 &&& (2147483647 : Int32)))), .val (.int (((maxI (1 : Int32) (p1 &&& (2147483647 : Int32))) + (p0 &&& (7 : Int32))) - (3 : Int32))), .val (.long (tripF (maxI (1 : Int32) (p1 &&& (2147483647 : Int32))) (((maxI (1 : Int32) (p1 &&& (2147483647 : Int32))) + (p0 &&& (7 : Int32))) - (3 : Int32)))), .second] [(.int (1 : Int32))])) (fun _ kt_ => XS.iconst X53.here hx rfl (hb hby at_107) kt_) ?_
      refine own_by (T' := T53) (g' := (mkF m 112 #[.val (.int p0), .val (.int p1), .val (.int p2), .val (.int (0 : Int32)), .val (.int (1 : Int32)), .val (.ref b_47), .val (.int (maxI (1 : Int32) (p1 &&& (2147483647 : Int32)))), .val (.int (((maxI (1 : Int32) (p1 &&& (2147483647 : Int32))) + (p0 &&& (7 : Int32))) - (3 : Int32))), .val (.long (tripF (maxI (1 : Int32) (p1 &&& (2147483647 : Int32))) (((maxI (1 : Int32) (p1 &&& (2147483647 : Int32))) + (p0 &&& (7 : Int32))) - (3 : Int32)))), .second] [(.int (1 : Int32))])) (fun _ kt_ => XS.goto X53.here hx rfl (pc0 := 108) (pc' := 112) rfl (hb hby at_108) (by decide) (by decide) kt_) ?_
      have hn55 : nar .boolean (1 : Int32) = (1 : Int32) := rfl
      obtain ⟨fs56, hr56, hrun56, hended56, hW56, hsame56⟩ := X53.leave (v := some (.int (nar .boolean (1 : Int32)))) (fun h => by rw [Bd.returns] at h; cases h)
      refine ⟨_, _, retN X53 hx (t := .boolean) Bd.returns (by simp) (hb hby at_112) hr56, hrun56, hended56, _, _, rfl, ?_, ⟨_, rfl⟩, hW56, hsame56.mono (by decide) (by decide)⟩
      show Q_rm0 Z wT wX vU hvU p0 p1 p2 h0 n0 _ T53.heap _
      exact ⟨(congrArg (fun z => some (Value.int z)) hn55), N54⟩
  · refine own_by (T' := s₁) (g' := (mkF m 6 #[.val (.int p0), .val (.int p1), .val (.int p2), .unset, .unset, .unset, .unset, .unset, .unset, .unset] [])) (fun _ kt_ => XS.ifNo X0.here hx rfl (hb hby at_3) rfl (XT.i0_eq_f hc1) kt_) ?_
    refine own_by (T' := s₁) (g' := (mkF m 7 #[.val (.int p0), .val (.int p1), .val (.int p2), .unset, .unset, .unset, .unset, .unset, .unset, .unset] [(.int (1 : Int32))])) (fun _ kt_ => XS.iconst X0.here hx rfl (hb hby at_6) kt_) ?_
    refine own_by (T' := s₁) (g' := (mkF m 11 #[.val (.int p0), .val (.int p1), .val (.int p2), .unset, .unset, .unset, .unset, .unset, .unset, .unset] [(.int (1 : Int32))])) (fun _ kt_ => XS.goto X0.here hx rfl (pc0 := 7) (pc' := 11) rfl (hb hby at_7) (by decide) (by decide) kt_) ?_
    refine own_by (T' := s₁) (g' := (mkF m 12 #[.val (.int p0), .val (.int p1), .val (.int p2), .val (.int (1 : Int32)), .unset, .unset, .unset, .unset, .unset, .unset] [])) (fun _ kt_ => XS.istoreN X0.here hx rfl (hb hby at_11) rfl (l' := #[.val (.int p0), .val (.int p1), .val (.int p2), .val (.int (1 : Int32)), .unset, .unset, .unset, .unset, .unset, .unset]) rfl kt_) ?_
    refine own_by (T' := s₁) (g' := (mkF m 13 #[.val (.int p0), .val (.int p1), .val (.int p2), .val (.int (1 : Int32)), .unset, .unset, .unset, .unset, .unset, .unset] [(.int p2)])) (fun _ kt_ => XS.iloadN X0.here hx rfl (hb hby at_12) rfl kt_) ?_
    refine own_by (T' := s₁) (g' := (mkF m 14 #[.val (.int p0), .val (.int p1), .val (.int p2), .val (.int (1 : Int32)), .unset, .unset, .unset, .unset, .unset, .unset] [(.int (2 : Int32)), (.int p2)])) (fun _ kt_ => XS.iconst X0.here hx rfl (hb hby at_13) kt_) ?_
    refine own_by (T' := s₁) (g' := (mkF m 15 #[.val (.int p0), .val (.int p1), .val (.int p2), .val (.int (1 : Int32)), .unset, .unset, .unset, .unset, .unset, .unset] [(.int (p2 &&& (2 : Int32)))])) (fun _ kt_ => XS.iand X0.here hx rfl (hb hby at_14) rfl kt_) ?_
    by_cases hc57 : (p2 &&& (2 : Int32)) = (0 : Int32)
    · refine own_by (T' := s₁) (g' := (mkF m 22 #[.val (.int p0), .val (.int p1), .val (.int p2), .val (.int (1 : Int32)), .unset, .unset, .unset, .unset, .unset, .unset] [])) (fun _ kt_ => XS.ifYes X0.here hx rfl (pc0 := 15) (pc' := 22) rfl (hb hby at_15) rfl (XT.i0_eq_t hc57) (by decide) (by decide) kt_) ?_
      refine own_by (T' := s₁) (g' := (mkF m 23 #[.val (.int p0), .val (.int p1), .val (.int p2), .val (.int (1 : Int32)), .unset, .unset, .unset, .unset, .unset, .unset] [(.int (0 : Int32))])) (fun _ kt_ => XS.iconst X0.here hx rfl (hb hby at_22) kt_) ?_
      refine own_by (T' := s₁) (g' := (mkF m 25 #[.val (.int p0), .val (.int p1), .val (.int p2), .val (.int (1 : Int32)), .val (.int (0 : Int32)), .unset, .unset, .unset, .unset, .unset] [])) (fun _ kt_ => XS.istore X0.here hx rfl (hb hby at_23) rfl (l' := #[.val (.int p0), .val (.int p1), .val (.int p2), .val (.int (1 : Int32)), .val (.int (0 : Int32)), .unset, .unset, .unset, .unset, .unset]) rfl kt_) ?_
      obtain ⟨T58, h58, X58, e58, E58, A58, D58, -, st58⟩ := newO X0 hx hZ hown (hw _ (List.mem_of_getElem? (i := 0) rfl)) (hw _ (List.mem_of_getElem? (i := 1) rfl)) (hw _ (List.mem_of_getElem? (i := 2) rfl)) e0 (g := (mkF m 25 #[.val (.int p0), .val (.int p1), .val (.int p2), .val (.int (1 : Int32)), .val (.int (0 : Int32)), .unset, .unset, .unset, .unset, .unset] [])) rfl (hb hby at_25) (by decide) (by decide)
      obtain ⟨b58, g58⟩ : ∃ z, z = h0.size := ⟨_, rfl⟩
      rw [← g58] at A58 D58 st58
      have K59 : Keep h0 h58 [] := own_kext E58
      have zzK59 : h0.size ≤ h58.size := K59.1
      have oo60 : Old Z n0 h58 := O0.keep K59 all0
      have kt61 : Keep h0 h58 [] := KT0.trans K59 all0
      have lab58 := A58.lt
      have f62 : Fld Z h58 b58 "com/example/fairlead/fairlead/core/BreakerPolicy" "tripFailures" "I" (.int (0 : Int32)) := D58 (Or.inr (hw _ (List.mem_of_getElem? (i := 48) rfl))) (ty := .int) (by decide)
      have f63 : Fld Z h58 b58 "com/example/fairlead/fairlead/core/BreakerPolicy" "tripMillis" "J" (.long (0 : Int64)) := D58 (Or.inr (hw _ (List.mem_of_getElem? (i := 50) rfl))) (ty := .long) (by decide)
      have f64 : Fld Z h58 b58 "com/example/fairlead/fairlead/core/BreakerPolicy" "maxTripMillis" "J" (.long (0 : Int64)) := D58 (Or.inr (hw _ (List.mem_of_getElem? (i := 52) rfl))) (ty := .long) (by decide)
      have f65 : Fld Z h58 b58 "com/example/fairlead/fairlead/core/BreakerPolicy" "clock" "Ljava/time/Clock;" .null := D58 (Or.inr (hw _ (List.mem_of_getElem? (i := 54) rfl))) (ty := (.object "java/time/Clock")) (by decide)
      refine own_by (T' := T58) (g' := (mkF m 28 #[.val (.int p0), .val (.int p1), .val (.int p2), .val (.int (1 : Int32)), .val (.int (0 : Int32)), .unset, .unset, .unset, .unset, .unset] [(.ref b58)])) st58 ?_
      refine own_by (T' := T58) (g' := (mkF m 29 #[.val (.int p0), .val (.int p1), .val (.int p2), .val (.int (1 : Int32)), .val (.int (0 : Int32)), .unset, .unset, .unset, .unset, .unset] [(.ref b58), (.ref b58)])) (fun _ kt_ => XS.dup X58.here hx rfl (hb hby at_28) rfl rfl kt_) ?_
      obtain ⟨_, _, ⟨T66, L66, k66, n66⟩, -, X66, ⟨Lc66, hQ66, l66, y66, z66⟩, st66⟩ := X58.specialBack hx (y := (⟨"com/example/fairlead/fairlead/core/BreakerPolicy", "<init>", "()V"⟩ : MethodName)) rfl hown (mvT hZ (hw _ (List.mem_of_getElem? (i := 3) rfl))) (mvT hZ (hw _ (List.mem_of_getElem? (i := 4) rfl))) (mvT hZ (hw _ (List.mem_of_getElem? (i := 5) rfl))) (by decide) (backOf (W := 1) (rmI0 l Z a0 hw [] wT wX vU hvU GS b58 h58 n0 (by omega) oo60 A58 (by omega) f62 f63 f64 f65) hZ (hw _ (List.mem_of_getElem? (i := 5) rfl)) (hw _ (List.mem_of_getElem? (i := 2) rfl)) (by decide) (by decide)) (g := (mkF m 29 #[.val (.int p0), .val (.int p1), .val (.int p2), .val (.int (1 : Int32)), .val (.int (0 : Int32)), .unset, .unset, .unset, .unset, .unset] [(.ref b58), (.ref b58)])) rfl (by rw [hml]; rfl) (Steps.refl _) (a := b58) (argsL := []) (rest := [(.ref b58)]) (lenOf own_pd_6 rfl) rfl (by show 2 * 0 + _ ≤ _; exact Nat.le_of_eq rfl) (hb hby at_29) (fun _ _ => ⟨rfl, e58, (by decide : 1 + 0 ≤ _), (by decide : 4 + 0 ≤ _)⟩)
      dsimp only [Pt.U, Pt.locs, Pt.cells, Pt.slots] at X66 l66 y66 z66 st66 hQ66
      subst l66 y66 z66
      obtain ⟨rfl, N66q, K66, p66_0, p66_1, p66_2, p66_3⟩ := hQ66
      have N67 := Fr.app N0 N66q
      have zzK66 : h58.size ≤ T66.heap.size := K66.1
      have oo68 : Old Z n0 T66.heap := oo60.keep K66 (allS (by omega : n0 ≤ b58) all0)
      have kt69 : Keep h0 T66.heap [] := kt61.trans K66 (allS (Or.inr (by omega : h0.size ≤ b58)) all0)
      refine own_by (T' := T66) (g' := (mkF m 32 #[.val (.int p0), .val (.int p1), .val (.int p2), .val (.int (1 : Int32)), .val (.int (0 : Int32)), .unset, .unset, .unset, .unset, .unset] [(.ref b58)])) (fun _ kt_ => st66.trans kt_) ?_
      refine own_by (T' := T66) (g' := (mkF m 34 #[.val (.int p0), .val (.int p1), .val (.int p2), .val (.int (1 : Int32)), .val (.int (0 : Int32)), .val (.ref b58), .unset, .unset, .unset, .unset] [])) (fun _ kt_ => XS.astore X66.here hx rfl (hb hby at_32) rfl rfl (l' := #[.val (.int p0), .val (.int p1), .val (.int p2), .val (.int (1 : Int32)), .val (.int (0 : Int32)), .val (.ref b58), .unset, .unset, .unset, .unset]) rfl kt_) ?_
      refine own_by (T' := T66) (g' := (mkF m 35 #[.val (.int p0), .val (.int p1), .val (.int p2), .val (.int (1 : Int32)), .val (.int (0 : Int32)), .val (.ref b58), .unset, .unset, .unset, .unset] [(.int (1 : Int32))])) (fun _ kt_ => XS.iloadN X66.here hx rfl (hb hby at_34) rfl kt_) ?_
      refine own_by (T' := T66) (g' := (mkF m 38 #[.val (.int p0), .val (.int p1), .val (.int p2), .val (.int (1 : Int32)), .val (.int (0 : Int32)), .val (.ref b58), .unset, .unset, .unset, .unset] [])) (fun _ kt_ => XS.ifNo X66.here hx rfl (hb hby at_35) rfl (XT.i0_eq_f (by decide)) kt_) ?_
      refine own_by (T' := T66) (g' := (mkF m 39 #[.val (.int p0), .val (.int p1), .val (.int p2), .val (.int (1 : Int32)), .val (.int (0 : Int32)), .val (.ref b58), .unset, .unset, .unset, .unset] [(.int (3 : Int32))])) (fun _ kt_ => XS.iconst X66.here hx rfl (hb hby at_38) kt_) ?_
      refine own_by (T' := T66) (g' := (mkF m 41 #[.val (.int p0), .val (.int p1), .val (.int p2), .val (.int (1 : Int32)), .val (.int (0 : Int32)), .val (.ref b58), .val (.int (3 : Int32)), .unset, .unset, .unset] [])) (fun _ kt_ => XS.istore X66.here hx rfl (hb hby at_39) rfl (l' := #[.val (.int p0), .val (.int p1), .val (.int p2), .val (.int (1 : Int32)), .val (.int (0 : Int32)), .val (.ref b58), .val (.int (3 : Int32)), .unset, .unset, .unset]) rfl kt_) ?_
      refine own_by (T' := T66) (g' := (mkF m 63 #[.val (.int p0), .val (.int p1), .val (.int p2), .val (.int (1 : Int32)), .val (.int (0 : Int32)), .val (.ref b58), .val (.int (3 : Int32)), .unset, .unset, .unset] [])) (fun _ kt_ => XS.goto X66.here hx rfl (pc0 := 41) (pc' := 63) rfl (hb hby at_41) (by decide) (by decide) kt_) ?_
      refine own_by (T' := T66) (g' := (mkF m 65 #[.val (.int p0), .val (.int p1), .val (.int p2), .val (.int (1 : Int32)), .val (.int (0 : Int32)), .val (.ref b58), .val (.int (3 : Int32)), .unset, .unset, .unset] [(.int (0 : Int32))])) (fun _ kt_ => XS.iload X66.here hx rfl (hb hby at_63) rfl kt_) ?_
      refine own_by (T' := T66) (g' := (mkF m 82 #[.val (.int p0), .val (.int p1), .val (.int p2), .val (.int (1 : Int32)), .val (.int (0 : Int32)), .val (.ref b58), .val (.int (3 : Int32)), .unset, .unset, .unset] [])) (fun _ kt_ => XS.ifYes X66.here hx rfl (pc0 := 65) (pc' := 82) rfl (hb hby at_65) rfl (XT.i0_eq_t (by decide)) (by decide) (by decide) kt_) ?_
      refine own_by (T' := T66) (g' := (mkF m 83 #[.val (.int p0), .val (.int p1), .val (.int p2), .val (.int (1 : Int32)), .val (.int (0 : Int32)), .val (.ref b58), .val (.int (3 : Int32)), .unset, .unset, .unset] [(.int p0)])) (fun _ kt_ => XS.iloadN X66.here hx rfl (hb hby at_82) rfl kt_) ?_
      refine own_by (T' := T66) (g' := (mkF m 85 #[.val (.int p0), .val (.int p1), .val (.int p2), .val (.int (1 : Int32)), .val (.int (0 : Int32)), .val (.ref b58), .val (.int (3 : Int32)), .val (.int p0), .unset, .unset] [])) (fun _ kt_ => XS.istore X66.here hx rfl (hb hby at_83) rfl (l' := #[.val (.int p0), .val (.int p1), .val (.int p2), .val (.int (1 : Int32)), .val (.int (0 : Int32)), .val (.ref b58), .val (.int (3 : Int32)), .val (.int p0), .unset, .unset]) rfl kt_) ?_
      refine own_by (T' := T66) (g' := (mkF m 87 #[.val (.int p0), .val (.int p1), .val (.int p2), .val (.int (1 : Int32)), .val (.int (0 : Int32)), .val (.ref b58), .val (.int (3 : Int32)), .val (.int p0), .unset, .unset] [(.ref b58)])) (fun _ kt_ => XS.aload X66.here hx rfl (hb hby at_85) rfl rfl kt_) ?_
      refine own_by (T' := T66) (g' := (mkF m 89 #[.val (.int p0), .val (.int p1), .val (.int p2), .val (.int (1 : Int32)), .val (.int (0 : Int32)), .val (.ref b58), .val (.int (3 : Int32)), .val (.int p0), .unset, .unset] [(.int p0), (.ref b58)])) (fun _ kt_ => XS.iload X66.here hx rfl (hb hby at_87) rfl kt_) ?_
      have f71 : Exa Z T66.heap b58 "com/example/fairlead/fairlead/core/BreakerPolicy" := (A58.keep K66)
      obtain ⟨cq70, kq70, q70a, q70b, q70c⟩ := isOf hZ rfl f71
      obtain ⟨_, _, ⟨T70, L70, k70, n70⟩, -, X70, ⟨Lc70, hQ70, l70, y70, z70⟩, st70⟩ := X66.virtualBack hx (y := (⟨"com/example/fairlead/fairlead/core/BreakerPolicy", "tripMillis", "(I)J"⟩ : MethodName)) (z := (⟨"com/example/fairlead/fairlead/core/BreakerPolicy", "tripMillis", "(I)J"⟩ : MethodName)) hown (mvT hZ (hw _ (List.mem_of_getElem? (i := 65) rfl))) (mvT hZ (hw _ (List.mem_of_getElem? (i := 66) rfl))) (notFace_of_selects (args := #[]) (mvT hZ (hw _ (List.mem_of_getElem? (i := 68) rfl)))) (mvT hZ (hw _ (List.mem_of_getElem? (i := 68) rfl))) (mvT hZ (hw _ (List.mem_of_getElem? (i := 67) rfl))) (by decide) (backOf (W := 0) (rmTrip l Z a0 hw [] wT wX vU hvU GS b58 (3 : Int32) p0 T66.heap n0 (by omega) oo68 p66_0 p66_1 p66_2) hZ (hw _ (List.mem_of_getElem? (i := 69) rfl)) (hw _ (List.mem_of_getElem? (i := 2) rfl)) (by decide) (by decide)) q70a q70c (g := (mkF m 89 #[.val (.int p0), .val (.int p1), .val (.int p2), .val (.int (1 : Int32)), .val (.int (0 : Int32)), .val (.ref b58), .val (.int (3 : Int32)), .val (.int p0), .unset, .unset] [(.int p0), (.ref b58)])) rfl (by rw [hml]; rfl) (Steps.refl _) (argsL := [(.int p0)]) (rest := []) (lenOf own_pd_9 rfl) rfl (by show 2 * 0 + _ ≤ _; exact Nat.le_of_eq rfl) (hb hby at_89) (fun _ _ => ⟨rfl, rfl, (by decide : 1 + 0 ≤ _), (by decide : 4 + 0 ≤ _)⟩)
      dsimp only [Pt.U, Pt.locs, Pt.cells, Pt.slots] at X70 l70 y70 z70 st70 hQ70
      subst l70 y70 z70
      obtain ⟨rfl, N70q, e70⟩ := hQ70
      have N72 := Fr.app N67 N70q
      refine own_by (T' := T70) (g' := (mkF m 92 #[.val (.int p0), .val (.int p1), .val (.int p2), .val (.int (1 : Int32)), .val (.int (0 : Int32)), .val (.ref b58), .val (.int (3 : Int32)), .val (.int p0), .unset, .unset] [(.long (tripF (3 : Int32) p0))])) (fun _ kt_ => st70.trans kt_) ?_
      refine own_by (T' := T70) (g' := (mkF m 94 #[.val (.int p0), .val (.int p1), .val (.int p2), .val (.int (1 : Int32)), .val (.int (0 : Int32)), .val (.ref b58), .val (.int (3 : Int32)), .val (.int p0), .val (.long (tripF (3 : Int32) p0)), .second] [])) (fun _ kt_ => XS.lstore X70.here hx rfl (hb hby at_92) rfl (l' := #[.val (.int p0), .val (.int p1), .val (.int p2), .val (.int (1 : Int32)), .val (.int (0 : Int32)), .val (.ref b58), .val (.int (3 : Int32)), .val (.int p0), .val (.long (tripF (3 : Int32) p0)), .second]) rfl kt_) ?_
      refine own_by (T' := T70) (g' := (mkF m 96 #[.val (.int p0), .val (.int p1), .val (.int p2), .val (.int (1 : Int32)), .val (.int (0 : Int32)), .val (.ref b58), .val (.int (3 : Int32)), .val (.int p0), .val (.long (tripF (3 : Int32) p0)), .second] [(.long (tripF (3 : Int32) p0))])) (fun _ kt_ => XS.lload X70.here hx rfl (hb hby at_94) rfl kt_) ?_
      refine own_by (T' := T70) (g' := (mkF m 98 #[.val (.int p0), .val (.int p1), .val (.int p2), .val (.int (1 : Int32)), .val (.int (0 : Int32)), .val (.ref b58), .val (.int (3 : Int32)), .val (.int p0), .val (.long (tripF (3 : Int32) p0)), .second] [(.int p0), (.long (tripF (3 : Int32) p0))])) (fun _ kt_ => XS.iload X70.here hx rfl (hb hby at_96) rfl kt_) ?_
      refine own_by (T' := T70) (g' := (mkF m 100 #[.val (.int p0), .val (.int p1), .val (.int p2), .val (.int (1 : Int32)), .val (.int (0 : Int32)), .val (.ref b58), .val (.int (3 : Int32)), .val (.int p0), .val (.long (tripF (3 : Int32) p0)), .second] [(.int (3 : Int32)), (.int p0), (.long (tripF (3 : Int32) p0))])) (fun _ kt_ => XS.iload X70.here hx rfl (hb hby at_98) rfl kt_) ?_
      obtain ⟨_, _, ⟨T73, L73, k73, n73⟩, -, X73, ⟨Lc73, hQ73, l73, y73, z73⟩, st73⟩ := Jvm.LawKit.callS X70 hx (y := (⟨"com/example/fairlead/fairlead/core/BreakerPolicyTripMillisPinLaw", "expected", "(II)J"⟩ : MethodName)) hown (mvT hZ (hw _ (List.mem_of_getElem? (i := 70) rfl))) (mvT hZ (hw _ (List.mem_of_getElem? (i := 71) rfl))) (mvT hZ (hw _ (List.mem_of_getElem? (i := 72) rfl))) (mvT hZ (hw _ (List.mem_of_getElem? (i := 73) rfl))) (by decide) (backOf (W := 2) (rmExp l Z a0 hw [] wT wX vU hvU GS p0 (3 : Int32) T66.heap n0 (by omega) oo68 ) hZ (hw _ (List.mem_of_getElem? (i := 73) rfl)) (hw _ (List.mem_of_getElem? (i := 72) rfl)) (by decide) (by decide)) (g := (mkF m 100 #[.val (.int p0), .val (.int p1), .val (.int p2), .val (.int (1 : Int32)), .val (.int (0 : Int32)), .val (.ref b58), .val (.int (3 : Int32)), .val (.int p0), .val (.long (tripF (3 : Int32) p0)), .second] [(.int (3 : Int32)), (.int p0), (.long (tripF (3 : Int32) p0))])) rfl (by rw [hml]; rfl) (argsL := [(.int p0), (.int (3 : Int32))]) (rest := [(.long (tripF (3 : Int32) p0))]) (lenOf own_pd_10 rfl) rfl (by show 2 * 0 + _ ≤ _; exact Nat.le_of_eq rfl) (hb hby at_100) (fun _ _ => ⟨rfl, e70, (by decide : 1 + 0 ≤ _), (by decide : 4 + 0 ≤ _)⟩)
      dsimp only [Pt.U, Pt.locs, Pt.cells, Pt.slots] at X73 l73 y73 z73 st73 hQ73
      subst l73 y73 z73
      obtain ⟨rfl, N73q, e73⟩ := hQ73
      have N74 := Fr.app N72 N73q
      refine own_by (T' := T73) (g' := (mkF m 103 #[.val (.int p0), .val (.int p1), .val (.int p2), .val (.int (1 : Int32)), .val (.int (0 : Int32)), .val (.ref b58), .val (.int (3 : Int32)), .val (.int p0), .val (.long (tripF (3 : Int32) p0)), .second] [(.long (expF p0 (3 : Int32))), (.long (tripF (3 : Int32) p0))])) st73 ?_
      refine own_by (T' := T73) (g' := (mkF m 104 #[.val (.int p0), .val (.int p1), .val (.int p2), .val (.int (1 : Int32)), .val (.int (0 : Int32)), .val (.ref b58), .val (.int (3 : Int32)), .val (.int p0), .val (.long (tripF (3 : Int32) p0)), .second] [(.int (XT.cmpL (tripF (3 : Int32) p0) (expF p0 (3 : Int32))))])) (fun _ kt_ => XT.lcmp X73.here hx rfl (hb hby at_103) rfl kt_) ?_
      refine own_by (T' := T73) (g' := (mkF m 107 #[.val (.int p0), .val (.int p1), .val (.int p2), .val (.int (1 : Int32)), .val (.int (0 : Int32)), .val (.ref b58), .val (.int (3 : Int32)), .val (.int p0), .val (.long (tripF (3 : Int32) p0)), .second] [])) (fun _ kt_ => XS.ifNo X73.here hx rfl (hb hby at_104) rfl (XT.ll_ne_f (own_trip _ _)) kt_) ?_
      refine own_by (T' := T73) (g' := (mkF m 108 #[.val (.int p0), .val (.int p1), .val (.int p2), .val (.int (1 : Int32)), .val (.int (0 : Int32)), .val (.ref b58), .val (.int (3 : Int32)), .val (.int p0), .val (.long (tripF (3 : Int32) p0)), .second] [(.int (1 : Int32))])) (fun _ kt_ => XS.iconst X73.here hx rfl (hb hby at_107) kt_) ?_
      refine own_by (T' := T73) (g' := (mkF m 112 #[.val (.int p0), .val (.int p1), .val (.int p2), .val (.int (1 : Int32)), .val (.int (0 : Int32)), .val (.ref b58), .val (.int (3 : Int32)), .val (.int p0), .val (.long (tripF (3 : Int32) p0)), .second] [(.int (1 : Int32))])) (fun _ kt_ => XS.goto X73.here hx rfl (pc0 := 108) (pc' := 112) rfl (hb hby at_108) (by decide) (by decide) kt_) ?_
      have hn75 : nar .boolean (1 : Int32) = (1 : Int32) := rfl
      obtain ⟨fs76, hr76, hrun76, hended76, hW76, hsame76⟩ := X73.leave (v := some (.int (nar .boolean (1 : Int32)))) (fun h => by rw [Bd.returns] at h; cases h)
      refine ⟨_, _, retN X73 hx (t := .boolean) Bd.returns (by simp) (hb hby at_112) hr76, hrun76, hended76, _, _, rfl, ?_, ⟨_, rfl⟩, hW76, hsame76.mono (by decide) (by decide)⟩
      show Q_rm0 Z wT wX vU hvU p0 p1 p2 h0 n0 _ T73.heap _
      exact ⟨(congrArg (fun z => some (Value.int z)) hn75), N74⟩
    · refine own_by (T' := s₁) (g' := (mkF m 18 #[.val (.int p0), .val (.int p1), .val (.int p2), .val (.int (1 : Int32)), .unset, .unset, .unset, .unset, .unset, .unset] [])) (fun _ kt_ => XS.ifNo X0.here hx rfl (hb hby at_15) rfl (XT.i0_eq_f hc57) kt_) ?_
      refine own_by (T' := s₁) (g' := (mkF m 19 #[.val (.int p0), .val (.int p1), .val (.int p2), .val (.int (1 : Int32)), .unset, .unset, .unset, .unset, .unset, .unset] [(.int (1 : Int32))])) (fun _ kt_ => XS.iconst X0.here hx rfl (hb hby at_18) kt_) ?_
      refine own_by (T' := s₁) (g' := (mkF m 23 #[.val (.int p0), .val (.int p1), .val (.int p2), .val (.int (1 : Int32)), .unset, .unset, .unset, .unset, .unset, .unset] [(.int (1 : Int32))])) (fun _ kt_ => XS.goto X0.here hx rfl (pc0 := 19) (pc' := 23) rfl (hb hby at_19) (by decide) (by decide) kt_) ?_
      refine own_by (T' := s₁) (g' := (mkF m 25 #[.val (.int p0), .val (.int p1), .val (.int p2), .val (.int (1 : Int32)), .val (.int (1 : Int32)), .unset, .unset, .unset, .unset, .unset] [])) (fun _ kt_ => XS.istore X0.here hx rfl (hb hby at_23) rfl (l' := #[.val (.int p0), .val (.int p1), .val (.int p2), .val (.int (1 : Int32)), .val (.int (1 : Int32)), .unset, .unset, .unset, .unset, .unset]) rfl kt_) ?_
      obtain ⟨T77, h77, X77, e77, E77, A77, D77, -, st77⟩ := newO X0 hx hZ hown (hw _ (List.mem_of_getElem? (i := 0) rfl)) (hw _ (List.mem_of_getElem? (i := 1) rfl)) (hw _ (List.mem_of_getElem? (i := 2) rfl)) e0 (g := (mkF m 25 #[.val (.int p0), .val (.int p1), .val (.int p2), .val (.int (1 : Int32)), .val (.int (1 : Int32)), .unset, .unset, .unset, .unset, .unset] [])) rfl (hb hby at_25) (by decide) (by decide)
      obtain ⟨b77, g77⟩ : ∃ z, z = h0.size := ⟨_, rfl⟩
      rw [← g77] at A77 D77 st77
      have K78 : Keep h0 h77 [] := own_kext E77
      have zzK78 : h0.size ≤ h77.size := K78.1
      have oo79 : Old Z n0 h77 := O0.keep K78 all0
      have kt80 : Keep h0 h77 [] := KT0.trans K78 all0
      have lab77 := A77.lt
      have f81 : Fld Z h77 b77 "com/example/fairlead/fairlead/core/BreakerPolicy" "tripFailures" "I" (.int (0 : Int32)) := D77 (Or.inr (hw _ (List.mem_of_getElem? (i := 48) rfl))) (ty := .int) (by decide)
      have f82 : Fld Z h77 b77 "com/example/fairlead/fairlead/core/BreakerPolicy" "tripMillis" "J" (.long (0 : Int64)) := D77 (Or.inr (hw _ (List.mem_of_getElem? (i := 50) rfl))) (ty := .long) (by decide)
      have f83 : Fld Z h77 b77 "com/example/fairlead/fairlead/core/BreakerPolicy" "maxTripMillis" "J" (.long (0 : Int64)) := D77 (Or.inr (hw _ (List.mem_of_getElem? (i := 52) rfl))) (ty := .long) (by decide)
      have f84 : Fld Z h77 b77 "com/example/fairlead/fairlead/core/BreakerPolicy" "clock" "Ljava/time/Clock;" .null := D77 (Or.inr (hw _ (List.mem_of_getElem? (i := 54) rfl))) (ty := (.object "java/time/Clock")) (by decide)
      refine own_by (T' := T77) (g' := (mkF m 28 #[.val (.int p0), .val (.int p1), .val (.int p2), .val (.int (1 : Int32)), .val (.int (1 : Int32)), .unset, .unset, .unset, .unset, .unset] [(.ref b77)])) st77 ?_
      refine own_by (T' := T77) (g' := (mkF m 29 #[.val (.int p0), .val (.int p1), .val (.int p2), .val (.int (1 : Int32)), .val (.int (1 : Int32)), .unset, .unset, .unset, .unset, .unset] [(.ref b77), (.ref b77)])) (fun _ kt_ => XS.dup X77.here hx rfl (hb hby at_28) rfl rfl kt_) ?_
      obtain ⟨_, _, ⟨T85, L85, k85, n85⟩, -, X85, ⟨Lc85, hQ85, l85, y85, z85⟩, st85⟩ := X77.specialBack hx (y := (⟨"com/example/fairlead/fairlead/core/BreakerPolicy", "<init>", "()V"⟩ : MethodName)) rfl hown (mvT hZ (hw _ (List.mem_of_getElem? (i := 3) rfl))) (mvT hZ (hw _ (List.mem_of_getElem? (i := 4) rfl))) (mvT hZ (hw _ (List.mem_of_getElem? (i := 5) rfl))) (by decide) (backOf (W := 1) (rmI0 l Z a0 hw [] wT wX vU hvU GS b77 h77 n0 (by omega) oo79 A77 (by omega) f81 f82 f83 f84) hZ (hw _ (List.mem_of_getElem? (i := 5) rfl)) (hw _ (List.mem_of_getElem? (i := 2) rfl)) (by decide) (by decide)) (g := (mkF m 29 #[.val (.int p0), .val (.int p1), .val (.int p2), .val (.int (1 : Int32)), .val (.int (1 : Int32)), .unset, .unset, .unset, .unset, .unset] [(.ref b77), (.ref b77)])) rfl (by rw [hml]; rfl) (Steps.refl _) (a := b77) (argsL := []) (rest := [(.ref b77)]) (lenOf own_pd_6 rfl) rfl (by show 2 * 0 + _ ≤ _; exact Nat.le_of_eq rfl) (hb hby at_29) (fun _ _ => ⟨rfl, e77, (by decide : 1 + 0 ≤ _), (by decide : 4 + 0 ≤ _)⟩)
      dsimp only [Pt.U, Pt.locs, Pt.cells, Pt.slots] at X85 l85 y85 z85 st85 hQ85
      subst l85 y85 z85
      obtain ⟨rfl, N85q, K85, p85_0, p85_1, p85_2, p85_3⟩ := hQ85
      have N86 := Fr.app N0 N85q
      have zzK85 : h77.size ≤ T85.heap.size := K85.1
      have oo87 : Old Z n0 T85.heap := oo79.keep K85 (allS (by omega : n0 ≤ b77) all0)
      have kt88 : Keep h0 T85.heap [] := kt80.trans K85 (allS (Or.inr (by omega : h0.size ≤ b77)) all0)
      refine own_by (T' := T85) (g' := (mkF m 32 #[.val (.int p0), .val (.int p1), .val (.int p2), .val (.int (1 : Int32)), .val (.int (1 : Int32)), .unset, .unset, .unset, .unset, .unset] [(.ref b77)])) (fun _ kt_ => st85.trans kt_) ?_
      refine own_by (T' := T85) (g' := (mkF m 34 #[.val (.int p0), .val (.int p1), .val (.int p2), .val (.int (1 : Int32)), .val (.int (1 : Int32)), .val (.ref b77), .unset, .unset, .unset, .unset] [])) (fun _ kt_ => XS.astore X85.here hx rfl (hb hby at_32) rfl rfl (l' := #[.val (.int p0), .val (.int p1), .val (.int p2), .val (.int (1 : Int32)), .val (.int (1 : Int32)), .val (.ref b77), .unset, .unset, .unset, .unset]) rfl kt_) ?_
      refine own_by (T' := T85) (g' := (mkF m 35 #[.val (.int p0), .val (.int p1), .val (.int p2), .val (.int (1 : Int32)), .val (.int (1 : Int32)), .val (.ref b77), .unset, .unset, .unset, .unset] [(.int (1 : Int32))])) (fun _ kt_ => XS.iloadN X85.here hx rfl (hb hby at_34) rfl kt_) ?_
      refine own_by (T' := T85) (g' := (mkF m 38 #[.val (.int p0), .val (.int p1), .val (.int p2), .val (.int (1 : Int32)), .val (.int (1 : Int32)), .val (.ref b77), .unset, .unset, .unset, .unset] [])) (fun _ kt_ => XS.ifNo X85.here hx rfl (hb hby at_35) rfl (XT.i0_eq_f (by decide)) kt_) ?_
      refine own_by (T' := T85) (g' := (mkF m 39 #[.val (.int p0), .val (.int p1), .val (.int p2), .val (.int (1 : Int32)), .val (.int (1 : Int32)), .val (.ref b77), .unset, .unset, .unset, .unset] [(.int (3 : Int32))])) (fun _ kt_ => XS.iconst X85.here hx rfl (hb hby at_38) kt_) ?_
      refine own_by (T' := T85) (g' := (mkF m 41 #[.val (.int p0), .val (.int p1), .val (.int p2), .val (.int (1 : Int32)), .val (.int (1 : Int32)), .val (.ref b77), .val (.int (3 : Int32)), .unset, .unset, .unset] [])) (fun _ kt_ => XS.istore X85.here hx rfl (hb hby at_39) rfl (l' := #[.val (.int p0), .val (.int p1), .val (.int p2), .val (.int (1 : Int32)), .val (.int (1 : Int32)), .val (.ref b77), .val (.int (3 : Int32)), .unset, .unset, .unset]) rfl kt_) ?_
      refine own_by (T' := T85) (g' := (mkF m 63 #[.val (.int p0), .val (.int p1), .val (.int p2), .val (.int (1 : Int32)), .val (.int (1 : Int32)), .val (.ref b77), .val (.int (3 : Int32)), .unset, .unset, .unset] [])) (fun _ kt_ => XS.goto X85.here hx rfl (pc0 := 41) (pc' := 63) rfl (hb hby at_41) (by decide) (by decide) kt_) ?_
      refine own_by (T' := T85) (g' := (mkF m 65 #[.val (.int p0), .val (.int p1), .val (.int p2), .val (.int (1 : Int32)), .val (.int (1 : Int32)), .val (.ref b77), .val (.int (3 : Int32)), .unset, .unset, .unset] [(.int (1 : Int32))])) (fun _ kt_ => XS.iload X85.here hx rfl (hb hby at_63) rfl kt_) ?_
      refine own_by (T' := T85) (g' := (mkF m 68 #[.val (.int p0), .val (.int p1), .val (.int p2), .val (.int (1 : Int32)), .val (.int (1 : Int32)), .val (.ref b77), .val (.int (3 : Int32)), .unset, .unset, .unset] [])) (fun _ kt_ => XS.ifNo X85.here hx rfl (hb hby at_65) rfl (XT.i0_eq_f (by decide)) kt_) ?_
      refine own_by (T' := T85) (g' := (mkF m 70 #[.val (.int p0), .val (.int p1), .val (.int p2), .val (.int (1 : Int32)), .val (.int (1 : Int32)), .val (.ref b77), .val (.int (3 : Int32)), .unset, .unset, .unset] [(.int (3 : Int32))])) (fun _ kt_ => XS.iload X85.here hx rfl (hb hby at_68) rfl kt_) ?_
      refine own_by (T' := T85) (g' := (mkF m 71 #[.val (.int p0), .val (.int p1), .val (.int p2), .val (.int (1 : Int32)), .val (.int (1 : Int32)), .val (.ref b77), .val (.int (3 : Int32)), .unset, .unset, .unset] [(.int p0), (.int (3 : Int32))])) (fun _ kt_ => XS.iloadN X85.here hx rfl (hb hby at_70) rfl kt_) ?_
      refine own_by (T' := T85) (g' := (mkF m 73 #[.val (.int p0), .val (.int p1), .val (.int p2), .val (.int (1 : Int32)), .val (.int (1 : Int32)), .val (.ref b77), .val (.int (3 : Int32)), .unset, .unset, .unset] [(.int (7 : Int32)), (.int p0), (.int (3 : Int32))])) (fun _ kt_ => XS.bipush X85.here hx rfl (hb hby at_71) kt_) ?_
      refine own_by (T' := T85) (g' := (mkF m 74 #[.val (.int p0), .val (.int p1), .val (.int p2), .val (.int (1 : Int32)), .val (.int (1 : Int32)), .val (.ref b77), .val (.int (3 : Int32)), .unset, .unset, .unset] [(.int (p0 &&& (7 : Int32))), (.int (3 : Int32))])) (fun _ kt_ => XS.iand X85.here hx rfl (hb hby at_73) rfl kt_) ?_
      refine own_by (T' := T85) (g' := (mkF m 75 #[.val (.int p0), .val (.int p1), .val (.int p2), .val (.int (1 : Int32)), .val (.int (1 : Int32)), .val (.ref b77), .val (.int (3 : Int32)), .unset, .unset, .unset] [(.int ((3 : Int32) + (p0 &&& (7 : Int32))))])) (fun _ kt_ => XS.iadd X85.here hx rfl (hb hby at_74) rfl kt_) ?_
      refine own_by (T' := T85) (g' := (mkF m 76 #[.val (.int p0), .val (.int p1), .val (.int p2), .val (.int (1 : Int32)), .val (.int (1 : Int32)), .val (.ref b77), .val (.int (3 : Int32)), .unset, .unset, .unset] [(.int (3 : Int32)), (.int ((3 : Int32) + (p0 &&& (7 : Int32))))])) (fun _ kt_ => XS.iconst X85.here hx rfl (hb hby at_75) kt_) ?_
      refine own_by (T' := T85) (g' := (mkF m 77 #[.val (.int p0), .val (.int p1), .val (.int p2), .val (.int (1 : Int32)), .val (.int (1 : Int32)), .val (.ref b77), .val (.int (3 : Int32)), .unset, .unset, .unset] [(.int (((3 : Int32) + (p0 &&& (7 : Int32))) - (3 : Int32)))])) (fun _ kt_ => XS.isub X85.here hx rfl (hb hby at_76) rfl kt_) ?_
      refine own_by (T' := T85) (g' := (mkF m 79 #[.val (.int p0), .val (.int p1), .val (.int p2), .val (.int (1 : Int32)), .val (.int (1 : Int32)), .val (.ref b77), .val (.int (3 : Int32)), .val (.int (((3 : Int32) + (p0 &&& (7 : Int32))) - (3 : Int32))), .unset, .unset] [])) (fun _ kt_ => XS.istore X85.here hx rfl (hb hby at_77) rfl (l' := #[.val (.int p0), .val (.int p1), .val (.int p2), .val (.int (1 : Int32)), .val (.int (1 : Int32)), .val (.ref b77), .val (.int (3 : Int32)), .val (.int (((3 : Int32) + (p0 &&& (7 : Int32))) - (3 : Int32))), .unset, .unset]) rfl kt_) ?_
      refine own_by (T' := T85) (g' := (mkF m 85 #[.val (.int p0), .val (.int p1), .val (.int p2), .val (.int (1 : Int32)), .val (.int (1 : Int32)), .val (.ref b77), .val (.int (3 : Int32)), .val (.int (((3 : Int32) + (p0 &&& (7 : Int32))) - (3 : Int32))), .unset, .unset] [])) (fun _ kt_ => XS.goto X85.here hx rfl (pc0 := 79) (pc' := 85) rfl (hb hby at_79) (by decide) (by decide) kt_) ?_
      refine own_by (T' := T85) (g' := (mkF m 87 #[.val (.int p0), .val (.int p1), .val (.int p2), .val (.int (1 : Int32)), .val (.int (1 : Int32)), .val (.ref b77), .val (.int (3 : Int32)), .val (.int (((3 : Int32) + (p0 &&& (7 : Int32))) - (3 : Int32))), .unset, .unset] [(.ref b77)])) (fun _ kt_ => XS.aload X85.here hx rfl (hb hby at_85) rfl rfl kt_) ?_
      refine own_by (T' := T85) (g' := (mkF m 89 #[.val (.int p0), .val (.int p1), .val (.int p2), .val (.int (1 : Int32)), .val (.int (1 : Int32)), .val (.ref b77), .val (.int (3 : Int32)), .val (.int (((3 : Int32) + (p0 &&& (7 : Int32))) - (3 : Int32))), .unset, .unset] [(.int (((3 : Int32) + (p0 &&& (7 : Int32))) - (3 : Int32))), (.ref b77)])) (fun _ kt_ => XS.iload X85.here hx rfl (hb hby at_87) rfl kt_) ?_
      have f90 : Exa Z T85.heap b77 "com/example/fairlead/fairlead/core/BreakerPolicy" := (A77.keep K85)
      obtain ⟨cq89, kq89, q89a, q89b, q89c⟩ := isOf hZ rfl f90
      obtain ⟨_, _, ⟨T89, L89, k89, n89⟩, -, X89, ⟨Lc89, hQ89, l89, y89, z89⟩, st89⟩ := X85.virtualBack hx (y := (⟨"com/example/fairlead/fairlead/core/BreakerPolicy", "tripMillis", "(I)J"⟩ : MethodName)) (z := (⟨"com/example/fairlead/fairlead/core/BreakerPolicy", "tripMillis", "(I)J"⟩ : MethodName)) hown (mvT hZ (hw _ (List.mem_of_getElem? (i := 65) rfl))) (mvT hZ (hw _ (List.mem_of_getElem? (i := 66) rfl))) (notFace_of_selects (args := #[]) (mvT hZ (hw _ (List.mem_of_getElem? (i := 68) rfl)))) (mvT hZ (hw _ (List.mem_of_getElem? (i := 68) rfl))) (mvT hZ (hw _ (List.mem_of_getElem? (i := 67) rfl))) (by decide) (backOf (W := 0) (rmTrip l Z a0 hw [] wT wX vU hvU GS b77 (3 : Int32) (((3 : Int32) + (p0 &&& (7 : Int32))) - (3 : Int32)) T85.heap n0 (by omega) oo87 p85_0 p85_1 p85_2) hZ (hw _ (List.mem_of_getElem? (i := 69) rfl)) (hw _ (List.mem_of_getElem? (i := 2) rfl)) (by decide) (by decide)) q89a q89c (g := (mkF m 89 #[.val (.int p0), .val (.int p1), .val (.int p2), .val (.int (1 : Int32)), .val (.int (1 : Int32)), .val (.ref b77), .val (.int (3 : Int32)), .val (.int (((3 : Int32) + (p0 &&& (7 : Int32))) - (3 : Int32))), .unset, .unset] [(.int (((3 : Int32) + (p0 &&& (7 : Int32))) - (3 : Int32))), (.ref b77)])) rfl (by rw [hml]; rfl) (Steps.refl _) (argsL := [(.int (((3 : Int32) + (p0 &&& (7 : Int32))) - (3 : Int32)))]) (rest := []) (lenOf own_pd_9 rfl) rfl (by show 2 * 0 + _ ≤ _; exact Nat.le_of_eq rfl) (hb hby at_89) (fun _ _ => ⟨rfl, rfl, (by decide : 1 + 0 ≤ _), (by decide : 4 + 0 ≤ _)⟩)
      dsimp only [Pt.U, Pt.locs, Pt.cells, Pt.slots] at X89 l89 y89 z89 st89 hQ89
      subst l89 y89 z89
      obtain ⟨rfl, N89q, e89⟩ := hQ89
      have N91 := Fr.app N86 N89q
      refine own_by (T' := T89) (g' := (mkF m 92 #[.val (.int p0), .val (.int p1), .val (.int p2), .val (.int (1 : Int32)), .val (.int (1 : Int32)), .val (.ref b77), .val (.int (3 : Int32)), .val (.int (((3 : Int32) + (p0 &&& (7 : Int32))) - (3 : Int32))), .unset, .unset] [(.long (tripF (3 : Int32) (((3 : Int32) + (p0 &&& (7 : Int32))) - (3 : Int32))))])) (fun _ kt_ => st89.trans kt_) ?_
      refine own_by (T' := T89) (g' := (mkF m 94 #[.val (.int p0), .val (.int p1), .val (.int p2), .val (.int (1 : Int32)), .val (.int (1 : Int32)), .val (.ref b77), .val (.int (3 : Int32)), .val (.int (((3 : Int32) + (p0 &&& (7 : Int32))) - (3 : Int32))), .val (.long (tripF (3 : Int32) (((3 : Int32) + (p0 &&& (7 : Int32))) - (3 : Int32)))), .second] [])) (fun _ kt_ => XS.lstore X89.here hx rfl (hb hby at_92) rfl (l' := #[.val (.int p0), .val (.int p1), .val (.int p2), .val (.int (1 : Int32)), .val (.int (1 : Int32)), .val (.ref b77), .val (.int (3 : Int32)), .val (.int (((3 : Int32) + (p0 &&& (7 : Int32))) - (3 : Int32))), .val (.long (tripF (3 : Int32) (((3 : Int32) + (p0 &&& (7 : Int32))) - (3 : Int32)))), .second]) rfl kt_) ?_
      refine own_by (T' := T89) (g' := (mkF m 96 #[.val (.int p0), .val (.int p1), .val (.int p2), .val (.int (1 : Int32)), .val (.int (1 : Int32)), .val (.ref b77), .val (.int (3 : Int32)), .val (.int (((3 : Int32) + (p0 &&& (7 : Int32))) - (3 : Int32))), .val (.long (tripF (3 : Int32) (((3 : Int32) + (p0 &&& (7 : Int32))) - (3 : Int32)))), .second] [(.long (tripF (3 : Int32) (((3 : Int32) + (p0 &&& (7 : Int32))) - (3 : Int32))))])) (fun _ kt_ => XS.lload X89.here hx rfl (hb hby at_94) rfl kt_) ?_
      refine own_by (T' := T89) (g' := (mkF m 98 #[.val (.int p0), .val (.int p1), .val (.int p2), .val (.int (1 : Int32)), .val (.int (1 : Int32)), .val (.ref b77), .val (.int (3 : Int32)), .val (.int (((3 : Int32) + (p0 &&& (7 : Int32))) - (3 : Int32))), .val (.long (tripF (3 : Int32) (((3 : Int32) + (p0 &&& (7 : Int32))) - (3 : Int32)))), .second] [(.int (((3 : Int32) + (p0 &&& (7 : Int32))) - (3 : Int32))), (.long (tripF (3 : Int32) (((3 : Int32) + (p0 &&& (7 : Int32))) - (3 : Int32))))])) (fun _ kt_ => XS.iload X89.here hx rfl (hb hby at_96) rfl kt_) ?_
      refine own_by (T' := T89) (g' := (mkF m 100 #[.val (.int p0), .val (.int p1), .val (.int p2), .val (.int (1 : Int32)), .val (.int (1 : Int32)), .val (.ref b77), .val (.int (3 : Int32)), .val (.int (((3 : Int32) + (p0 &&& (7 : Int32))) - (3 : Int32))), .val (.long (tripF (3 : Int32) (((3 : Int32) + (p0 &&& (7 : Int32))) - (3 : Int32)))), .second] [(.int (3 : Int32)), (.int (((3 : Int32) + (p0 &&& (7 : Int32))) - (3 : Int32))), (.long (tripF (3 : Int32) (((3 : Int32) + (p0 &&& (7 : Int32))) - (3 : Int32))))])) (fun _ kt_ => XS.iload X89.here hx rfl (hb hby at_98) rfl kt_) ?_
      obtain ⟨_, _, ⟨T92, L92, k92, n92⟩, -, X92, ⟨Lc92, hQ92, l92, y92, z92⟩, st92⟩ := Jvm.LawKit.callS X89 hx (y := (⟨"com/example/fairlead/fairlead/core/BreakerPolicyTripMillisPinLaw", "expected", "(II)J"⟩ : MethodName)) hown (mvT hZ (hw _ (List.mem_of_getElem? (i := 70) rfl))) (mvT hZ (hw _ (List.mem_of_getElem? (i := 71) rfl))) (mvT hZ (hw _ (List.mem_of_getElem? (i := 72) rfl))) (mvT hZ (hw _ (List.mem_of_getElem? (i := 73) rfl))) (by decide) (backOf (W := 2) (rmExp l Z a0 hw [] wT wX vU hvU GS (((3 : Int32) + (p0 &&& (7 : Int32))) - (3 : Int32)) (3 : Int32) T85.heap n0 (by omega) oo87 ) hZ (hw _ (List.mem_of_getElem? (i := 73) rfl)) (hw _ (List.mem_of_getElem? (i := 72) rfl)) (by decide) (by decide)) (g := (mkF m 100 #[.val (.int p0), .val (.int p1), .val (.int p2), .val (.int (1 : Int32)), .val (.int (1 : Int32)), .val (.ref b77), .val (.int (3 : Int32)), .val (.int (((3 : Int32) + (p0 &&& (7 : Int32))) - (3 : Int32))), .val (.long (tripF (3 : Int32) (((3 : Int32) + (p0 &&& (7 : Int32))) - (3 : Int32)))), .second] [(.int (3 : Int32)), (.int (((3 : Int32) + (p0 &&& (7 : Int32))) - (3 : Int32))), (.long (tripF (3 : Int32) (((3 : Int32) + (p0 &&& (7 : Int32))) - (3 : Int32))))])) rfl (by rw [hml]; rfl) (argsL := [(.int (((3 : Int32) + (p0 &&& (7 : Int32))) - (3 : Int32))), (.int (3 : Int32))]) (rest := [(.long (tripF (3 : Int32) (((3 : Int32) + (p0 &&& (7 : Int32))) - (3 : Int32))))]) (lenOf own_pd_10 rfl) rfl (by show 2 * 0 + _ ≤ _; exact Nat.le_of_eq rfl) (hb hby at_100) (fun _ _ => ⟨rfl, e89, (by decide : 1 + 0 ≤ _), (by decide : 4 + 0 ≤ _)⟩)
      dsimp only [Pt.U, Pt.locs, Pt.cells, Pt.slots] at X92 l92 y92 z92 st92 hQ92
      subst l92 y92 z92
      obtain ⟨rfl, N92q, e92⟩ := hQ92
      have N93 := Fr.app N91 N92q
      refine own_by (T' := T92) (g' := (mkF m 103 #[.val (.int p0), .val (.int p1), .val (.int p2), .val (.int (1 : Int32)), .val (.int (1 : Int32)), .val (.ref b77), .val (.int (3 : Int32)), .val (.int (((3 : Int32) + (p0 &&& (7 : Int32))) - (3 : Int32))), .val (.long (tripF (3 : Int32) (((3 : Int32) + (p0 &&& (7 : Int32))) - (3 : Int32)))), .second] [(.long (expF (((3 : Int32) + (p0 &&& (7 : Int32))) - (3 : Int32)) (3 : Int32))), (.long (tripF (3 : Int32) (((3 : Int32) + (p0 &&& (7 : Int32))) - (3 : Int32))))])) st92 ?_
      refine own_by (T' := T92) (g' := (mkF m 104 #[.val (.int p0), .val (.int p1), .val (.int p2), .val (.int (1 : Int32)), .val (.int (1 : Int32)), .val (.ref b77), .val (.int (3 : Int32)), .val (.int (((3 : Int32) + (p0 &&& (7 : Int32))) - (3 : Int32))), .val (.long (tripF (3 : Int32) (((3 : Int32) + (p0 &&& (7 : Int32))) - (3 : Int32)))), .second] [(.int (XT.cmpL (tripF (3 : Int32) (((3 : Int32) + (p0 &&& (7 : Int32))) - (3 : Int32))) (expF (((3 : Int32) + (p0 &&& (7 : Int32))) - (3 : Int32)) (3 : Int32))))])) (fun _ kt_ => XT.lcmp X92.here hx rfl (hb hby at_103) rfl kt_) ?_
      refine own_by (T' := T92) (g' := (mkF m 107 #[.val (.int p0), .val (.int p1), .val (.int p2), .val (.int (1 : Int32)), .val (.int (1 : Int32)), .val (.ref b77), .val (.int (3 : Int32)), .val (.int (((3 : Int32) + (p0 &&& (7 : Int32))) - (3 : Int32))), .val (.long (tripF (3 : Int32) (((3 : Int32) + (p0 &&& (7 : Int32))) - (3 : Int32)))), .second] [])) (fun _ kt_ => XS.ifNo X92.here hx rfl (hb hby at_104) rfl (XT.ll_ne_f (own_trip _ _)) kt_) ?_
      refine own_by (T' := T92) (g' := (mkF m 108 #[.val (.int p0), .val (.int p1), .val (.int p2), .val (.int (1 : Int32)), .val (.int (1 : Int32)), .val (.ref b77), .val (.int (3 : Int32)), .val (.int (((3 : Int32) + (p0 &&& (7 : Int32))) - (3 : Int32))), .val (.long (tripF (3 : Int32) (((3 : Int32) + (p0 &&& (7 : Int32))) - (3 : Int32)))), .second] [(.int (1 : Int32))])) (fun _ kt_ => XS.iconst X92.here hx rfl (hb hby at_107) kt_) ?_
      refine own_by (T' := T92) (g' := (mkF m 112 #[.val (.int p0), .val (.int p1), .val (.int p2), .val (.int (1 : Int32)), .val (.int (1 : Int32)), .val (.ref b77), .val (.int (3 : Int32)), .val (.int (((3 : Int32) + (p0 &&& (7 : Int32))) - (3 : Int32))), .val (.long (tripF (3 : Int32) (((3 : Int32) + (p0 &&& (7 : Int32))) - (3 : Int32)))), .second] [(.int (1 : Int32))])) (fun _ kt_ => XS.goto X92.here hx rfl (pc0 := 108) (pc' := 112) rfl (hb hby at_108) (by decide) (by decide) kt_) ?_
      have hn94 : nar .boolean (1 : Int32) = (1 : Int32) := rfl
      obtain ⟨fs95, hr95, hrun95, hended95, hW95, hsame95⟩ := X92.leave (v := some (.int (nar .boolean (1 : Int32)))) (fun h => by rw [Bd.returns] at h; cases h)
      refine ⟨_, _, retN X92 hx (t := .boolean) Bd.returns (by simp) (hb hby at_112) hr95, hrun95, hended95, _, _, rfl, ?_, ⟨_, rfl⟩, hW95, hsame95.mono (by decide) (by decide)⟩
      show Q_rm0 Z wT wX vU hvU p0 p1 p2 h0 n0 _ T92.heap _
      exact ⟨(congrArg (fun z => some (Value.int z)) hn94), N93⟩
set_option maxRecDepth 65536 in
set_option maxHeartbeats 40000000 in
theorem comes_1 {Post : Tables → Env → Array Value → State → Outcome → State → Prop} (hpost : ∀ tb e args s v u, (limb_1_1.after args s (.returned v) u = true ∧ limb_1_2.after args s (.returned v) u = true ∧ True) → FrameEnd s (.returned v) u (Jvm.fieldLocs frame_1_writes args s ++ Jvm.arrayLocs frame_1_arrays args s ++ Jvm.staticLocs frame_1_statics s) 16 128 → Post tb e args s (.returned v) u) :
    ArmFor flags0 classFile x code maxLocals ret World_1 tables_1 room_1 Calls_1 rest_1 Pre_1 Post := by
  intro l hfl _ _ p e ha hc hk s m args below hf hA hF happ hP
  obtain ⟨hcalls, hrest, hpre⟩ := hP
  obtain ⟨-, -, -, hnamed, -, -, -, hat⟩ := (Spec.applies_iff hf).mp happ
  obtain ⟨hg, hn⟩ := and_e (Cond.before_iff.mp (show (Jvm.Cond.and given_1 narrow_1).before args s = true from hpre))
  obtain ⟨g1a, g1b⟩ := and_e hg
  obtain ⟨g2a, g2b⟩ := and_e g1b
  obtain ⟨g3a, g3b⟩ := and_e g2b
  obtain ⟨g4a, g4b⟩ := and_e hn
  obtain ⟨g5a, g5b⟩ := and_e g4b
  obtain ⟨g6a, g6b⟩ := and_e g5b
  obtain ⟨g7a, g7b⟩ := and_e g6b
  obtain ⟨g8a, g8b⟩ := and_e g7b
  obtain ⟨w0, w1, w2, rfl⟩ : ∃ w0 w1 w2 : Value, args = #[w0, w1, w2] := by
    have hs : args.size = 3 := by simpa [Cond.value, given_1] using g1a
    obtain ⟨L⟩ := args
    match L, hs with
    | [w0, w1, w2], _ => exact ⟨w0, w1, w2, rfl⟩
  have hw := fun d (hd : d ∈ tables_1) => atoms_spec (ws := Jvm.Cond.code x code maxLocals ret :: tables_1) hat d (List.mem_cons_of_mem _ hd)
  have hfit : Fit s := fun {y c} hc i hi => by
    obtain ⟨ha, rfl⟩ := Array.getElem?_eq_some_iff.mp hc
    have q := List.all_eq_true.mp ((Array.all_eq_true_iff_forall_mem.mp hF) _ (Array.getElem_mem ha)) i (List.mem_range.mpr hi)
    simpa [Array.getElem?_eq_getElem hi] using q
  obtain ⟨i0, ei0⟩ := is_v g2a
  obtain rfl : w0 = (.int i0) := Option.some.inj ei0
  obtain ⟨i1, ei1⟩ := is_v g3a
  obtain rfl : w1 = (.int i1) := Option.some.inj ei1
  obtain ⟨i2, ei2⟩ := is_v g3b
  obtain rfl : w2 = (.int i2) := Option.some.inj ei2
  obtain ⟨wT, ev_wT⟩ := exa_v g4a
  have sta_wT := Sta.start ev_wT (Or.inr ⟨(hw _ (List.mem_of_getElem? (i := 2) rfl)), (hw _ (List.mem_of_getElem? (i := 7) rfl))⟩)
  obtain ⟨wX, ev_wX⟩ := exa_v g7a
  have sta_wX := Sta.start ev_wX (Or.inr ⟨(hw _ (List.mem_of_getElem? (i := 2) rfl)), (hw _ (List.mem_of_getElem? (i := 33) rfl))⟩)
  obtain ⟨vU, ev_vU, ft_vU⟩ := static_fit hfit (hw _ (List.mem_of_getElem? (i := 40) rfl)) (ty := (.object "java/time/Clock$SystemClock")) (by decide)
  have hvU := fit_R ft_vU rfl
  have sta_vU := Sta.start ev_vU (Or.inr ⟨(hw _ (List.mem_of_getElem? (i := 39) rfl)), (hw _ (List.mem_of_getElem? (i := 40) rfl))⟩)
  have exa_wT := Exa.start ev_wT g4a
  have fld_wT_seconds := own_fldJ ev_wT g5a
  have fld_wT_nanos := own_fldI ev_wT g6a
  have exa_wX := Exa.start ev_wX g7a
  have fld_wX_seconds := own_fldJ ev_wX g8a
  have fld_wX_nanos := own_fldI ev_wX g8b
  have GS : Glob s wT wX vU hvU := ⟨sta_wT, exa_wT, fld_wT_seconds, fld_wT_nanos, sta_wX, exa_wX, fld_wX_seconds, fld_wX_nanos, sta_vU⟩
  obtain ⟨n, o, h1, h2, h3, _, L, rfl, ⟨rfl, N⟩, hq⟩ := rm0 l s _ hw tables_1 wT wX vU hvU GS i0 i1 i2 s.heap s.heap.size (Nat.le_refl _) (Old.start s) p e ha hc hk s m _ below hf ((Spec.applies_iff_loose hf).mp happ).1 ⟨rfl, State.Warmed39.refl s, rfl⟩ trivial
  refine ⟨n, _, h1, h2, h3, hpost _ _ _ _ _ _ ⟨Cond.after_iff.mpr rfl, Cond.after_iff.mpr (eq_i res_at (Term.int_eval (1)) rfl), trivial⟩ ⟨hq.1, hq.2.1, (hq.2.2.sift fun y hy => Or.inr (N y hy)).mono (by decide) (by decide)⟩⟩
theorem main_1_1 : Claimed_1_1 := comes_1 fun _ _ _ _ _ _ h hF => ⟨h.1, hF⟩
theorem main_1_2 : Claimed_1_2 := comes_1 fun _ _ _ _ _ _ h hF => ⟨h.2.1, hF⟩
end Jvm.Pilot.@@N@@
namespace Jvm.Pilot.@@N@@
open Jvm Jvm.ClassFile Sem Op Lib Jvm.Free Jvm.Stand Jvm.Pilot.@@N@@.Jvm.D
/-! MADE BY PROGRAM (witnessworld.py) out of the Statement's table words and the real class files: 16 classes; the members and pool entries that the words name. The judged class is class 1, her method 2. -/
namespace start1
open Jvm.ClassFile
def u (s : String) : CpInfo := .utf8 (stringToUtf16 s)
/-- a pool by its gaps: so many unusable entries, then the entry; so many at the end -/
def gap : Nat → List CpInfo → List CpInfo
  | 0, r => r
  | n + 1, r => .unusable :: gap n r
def poolList (es : List (Nat × CpInfo)) (last : Nat) : List CpInfo := es.foldr (fun e r => gap e.1 (e.2 :: r)) (gap last [])
def pool (es : List (Nat × CpInfo)) (last : Nat) : Array CpInfo := ⟨poolList es last⟩
def fileOf (pool : Array CpInfo) (this : Nat) (attrs : Array Attribute := #[]) (ms : Array MethodInfo := #[]) (fl : Nat := 33) (sup : Nat := 0) (ifs : Array Nat := #[]) (fds : Array FieldInfo := #[]) : ClassFile where
  minorVersion := 0
  majorVersion := 65
  constantPool := pool
  accessFlags := fl
  thisClass := this
  superClass := sup
  interfaces := ifs
  fields := fds
  methods := ms
  attributes := attrs
def plain (name : String) (sup : Option ClassId) : Class where
  name := name
  kind := .ordinary
  loader := none
  accessFlags := 33
  super := sup
  interfaces := #[]
  cf := none
  fields := #[]
  methods := #[]
  instanceTypes := #[]
  staticTypes := #[]
  resolved := #[]
  callSites := []
  init := .initialized
  statics := none
  mirror := none

def pool0 : Array CpInfo := pool [(5, u "<init>"), (0, u "()V"), (1, .class_ 10), (1, u "java/lang/Object")] 113

def k0c0 : Code := { maxStack := 0, maxLocals := 1, code := object_method_1_code, exceptionTable := #[], attributes := #[] }
def k0m0 : Method := { name := "<init>", desc := "()V", sig := { parameters := [], returnType := none }, accessFlags := 1, code := some k0c0 }
/-- java/lang/Object -/
def k0 : Class := { plain "java/lang/Object" none with
  accessFlags := 33
  interfaces := #[]
  cf := some (fileOf pool0 8 #[] #[{ accessFlags := 1, nameIndex := 5, descriptorIndex := 6, attributes := #[] }] 33 0 #[] #[])
  fields := #[]
  methods := #[k0m0]
  instanceTypes := #[]
  staticTypes := #[]
  resolved := Array.replicate 124 none
  statics := none }

def pool1 : Array CpInfo := pool [(2, .class_ 4), (0, .nameAndType 5 6), (0, u "java/lang/Object"), (0, u "<init>"), (0, u "()V"), (0, .long 10000), (1, .long 20000), (1, .long 30000), (1, .class_ 14), (0, u "com/example/fairlead/fairlead/core/BreakerPolicy"), (0, .methodref 13 3), (0, .integer 2147483647), (0, .methodref 18 19), (0, .class_ 20), (0, .nameAndType 21 22), (0, u "java/lang/Math"), (0, u "max"), (0, u "(II)I"), (0, .methodref 13 24), (0, .nameAndType 25 26), (0, u "withTripFailures"), (0, u "(I)Lcom/example/fairlead/fairlead/core/BreakerPolicy;"), (0, .methodref 13 28), (0, .nameAndType 29 30), (0, u "tripMillis"), (0, u "(I)J"), (0, .methodref 32 33), (0, .class_ 34), (0, .nameAndType 35 36), (0, u "com/example/fairlead/fairlead/core/BreakerPolicyTripMillisPinLaw"), (0, u "expected"), (0, u "(II)J"), (3, u "law"), (0, u "(III)Z")] 2

def k1m0 : Method := { name := "<init>", desc := "()V", sig := { parameters := [], returnType := none }, accessFlags := 1, code := none }
def k1c1 : Code := { maxStack := 4, maxLocals := 4, code := method_2_code, exceptionTable := #[], attributes := #[] }
def k1m1 : Method := { name := "expected", desc := "(II)J", sig := { parameters := [.int, .int], returnType := some .long }, accessFlags := 10, code := some k1c1 }
def k1c2 : Code := { maxStack := 4, maxLocals := 10, code := code, exceptionTable := #[], attributes := #[] }
def k1m2 : Method := { name := "law", desc := "(III)Z", sig := { parameters := [.int, .int, .int], returnType := some .boolean }, accessFlags := 9, code := some k1c2 }
/-- com/example/fairlead/fairlead/core/BreakerPolicyTripMillisPinLaw -/
def k1 : Class := { plain "com/example/fairlead/fairlead/core/BreakerPolicyTripMillisPinLaw" (some 0) with
  accessFlags := 49
  interfaces := #[]
  cf := some (fileOf pool1 32 #[] #[{ accessFlags := 1, nameIndex := 5, descriptorIndex := 6, attributes := #[] }, { accessFlags := 10, nameIndex := 35, descriptorIndex := 36, attributes := #[] }, { accessFlags := 9, nameIndex := 40, descriptorIndex := 41, attributes := #[] }] 49 2 #[] #[])
  fields := #[]
  methods := #[k1m0, k1m1, k1m2]
  instanceTypes := #[]
  staticTypes := #[]
  resolved := Array.replicate 44 none
  statics := none }

def pool2 : Array CpInfo := pool [(1, .class_ 2), (0, u "com/example/fairlead/fairlead/core/BreakerPolicy"), (0, .fieldref 1 4), (0, .nameAndType 5 6), (0, u "DEFAULT_TRIP_TIME"), (0, u "Ljava/time/Duration;"), (0, .methodref 8 9), (0, .class_ 10), (0, .nameAndType 11 12), (0, u "java/time/Duration"), (0, u "toMillis"), (0, u "()J"), (0, .fieldref 1 14), (0, .nameAndType 15 6), (0, u "DEFAULT_MAX_TRIP_TIME"), (0, .methodref 17 18), (0, .class_ 19), (0, .nameAndType 20 21), (0, u "java/time/Clock"), (0, u "systemUTC"), (0, u "()Ljava/time/Clock;"), (0, .methodref 1 23), (0, .nameAndType 24 25), (0, u "<init>"), (0, u "(IJJLjava/time/Clock;)V"), (0, .methodref 27 28), (0, .class_ 29), (0, .nameAndType 24 30), (0, u "java/lang/Object"), (0, u "()V"), (0, .fieldref 1 32), (0, .nameAndType 33 34), (0, u "tripFailures"), (0, u "I"), (0, .fieldref 1 36), (0, .nameAndType 37 38), (0, u "tripMillis"), (0, u "J"), (0, .fieldref 1 40), (0, .nameAndType 41 38), (0, u "maxTripMillis"), (0, .fieldref 1 43), (0, .nameAndType 44 45), (0, u "clock"), (0, u "Ljava/time/Clock;"), (29, .long 2), (9, u "DEFAULT_TRIP_FAILURES"), (4, u "withTripFailures"), (0, u "(I)Lcom/example/fairlead/fairlead/core/BreakerPolicy;"), (5, u "(I)J")] 20

def k2c0 : Code := { maxStack := 7, maxLocals := 1, code := prog_4_method_1_code, exceptionTable := #[], attributes := #[] }
def k2m0 : Method := { name := "<init>", desc := "()V", sig := { parameters := [], returnType := none }, accessFlags := 1, code := some k2c0 }
def k2c1 : Code := { maxStack := 3, maxLocals := 7, code := prog_4_method_2_code, exceptionTable := #[], attributes := #[] }
def k2m1 : Method := { name := "<init>", desc := "(IJJLjava/time/Clock;)V", sig := { parameters := [.int, .long, .long, (.object "java/time/Clock")], returnType := none }, accessFlags := 2, code := some k2c1 }
def k2c2 : Code := { maxStack := 8, maxLocals := 2, code := prog_4_method_3_code, exceptionTable := #[], attributes := #[] }
def k2m2 : Method := { name := "withTripFailures", desc := "(I)Lcom/example/fairlead/fairlead/core/BreakerPolicy;", sig := { parameters := [.int], returnType := some (.object "com/example/fairlead/fairlead/core/BreakerPolicy") }, accessFlags := 1, code := some k2c2 }
def k2c3 : Code := { maxStack := 6, maxLocals := 5, code := prog_4_method_7_code, exceptionTable := #[], attributes := #[] }
def k2m3 : Method := { name := "tripMillis", desc := "(I)J", sig := { parameters := [.int], returnType := some .long }, accessFlags := 0, code := some k2c3 }
/-- com/example/fairlead/fairlead/core/BreakerPolicy -/
def k2 : Class := { plain "com/example/fairlead/fairlead/core/BreakerPolicy" (some 0) with
  accessFlags := 49
  interfaces := #[]
  cf := some (fileOf pool2 1 #[] #[{ accessFlags := 1, nameIndex := 24, descriptorIndex := 30, attributes := #[] }, { accessFlags := 2, nameIndex := 24, descriptorIndex := 25, attributes := #[] }, { accessFlags := 1, nameIndex := 90, descriptorIndex := 91, attributes := #[] }, { accessFlags := 0, nameIndex := 37, descriptorIndex := 97, attributes := #[] }] 49 27 #[] #[{ accessFlags := 25, nameIndex := 85, descriptorIndex := 34, attributes := #[] }, { accessFlags := 25, nameIndex := 5, descriptorIndex := 6, attributes := #[] }, { accessFlags := 25, nameIndex := 15, descriptorIndex := 6, attributes := #[] }, { accessFlags := 18, nameIndex := 33, descriptorIndex := 34, attributes := #[] }, { accessFlags := 18, nameIndex := 37, descriptorIndex := 38, attributes := #[] }, { accessFlags := 18, nameIndex := 41, descriptorIndex := 38, attributes := #[] }, { accessFlags := 18, nameIndex := 44, descriptorIndex := 45, attributes := #[] }])
  fields := #[{ name := "DEFAULT_TRIP_FAILURES", type := .int, accessFlags := 25, slot := 0, constantValue := 0 }, { name := "DEFAULT_TRIP_TIME", type := (.object "java/time/Duration"), accessFlags := 25, slot := 1, constantValue := 0 }, { name := "DEFAULT_MAX_TRIP_TIME", type := (.object "java/time/Duration"), accessFlags := 25, slot := 2, constantValue := 0 }, { name := "tripFailures", type := .int, accessFlags := 18, slot := 0, constantValue := 0 }, { name := "tripMillis", type := .long, accessFlags := 18, slot := 1, constantValue := 0 }, { name := "maxTripMillis", type := .long, accessFlags := 18, slot := 2, constantValue := 0 }, { name := "clock", type := (.object "java/time/Clock"), accessFlags := 18, slot := 3, constantValue := 0 }]
  methods := #[k2m0, k2m1, k2m2, k2m3]
  instanceTypes := #[.int, .long, .long, (.object "java/time/Clock")]
  staticTypes := #[.int, (.object "java/time/Duration"), (.object "java/time/Duration")]
  resolved := Array.replicate 118 none
  statics := some 0 }

def pool3 : Array CpInfo := pool [(1, .class_ 2), (0, u "java/time/temporal/TemporalAmount"), (0, .class_ 4), (0, u "java/lang/Object")] 11

/-- java/time/temporal/TemporalAmount -/
def k3 : Class := { plain "java/time/temporal/TemporalAmount" (some 0) with
  accessFlags := 1537
  interfaces := #[]
  cf := some (fileOf pool3 1 #[] #[] 1537 3 #[] #[])
  fields := #[]
  methods := #[]
  instanceTypes := #[]
  staticTypes := #[]
  resolved := Array.replicate 16 none
  statics := none }

def pool4 : Array CpInfo := pool [(1, .class_ 2), (0, u "java/lang/Comparable"), (0, .class_ 4), (0, u "java/lang/Object")] 7

/-- java/lang/Comparable -/
def k4 : Class := { plain "java/lang/Comparable" (some 0) with
  accessFlags := 1537
  interfaces := #[]
  cf := some (fileOf pool4 1 #[] #[] 1537 3 #[] #[])
  fields := #[]
  methods := #[]
  instanceTypes := #[]
  staticTypes := #[]
  resolved := Array.replicate 12 none
  statics := none }

def pool5 : Array CpInfo := pool [(1, .class_ 2), (0, u "java/io/Serializable"), (0, .class_ 4), (0, u "java/lang/Object")] 2

/-- java/io/Serializable -/
def k5 : Class := { plain "java/io/Serializable" (some 0) with
  accessFlags := 1537
  interfaces := #[]
  cf := some (fileOf pool5 1 #[] #[] 1537 3 #[] #[])
  fields := #[]
  methods := #[]
  instanceTypes := #[]
  staticTypes := #[]
  resolved := Array.replicate 7 none
  statics := none }

def pool6 : Array CpInfo := pool [(4, .methodref 5 6), (0, .class_ 7), (0, .nameAndType 8 9), (0, u "java/lang/Math"), (0, u "multiplyExact"), (0, u "(JI)J"), (1, .class_ 13), (1, u "java/time/Duration"), (7, u "(JJ)J"), (0, .methodref 5 23), (0, .nameAndType 24 21), (0, u "addExact"), (9, u "ZERO"), (0, u "Ljava/time/Duration;"), (13, .class_ 51), (1, u "java/time/temporal/TemporalAmount"), (27, .class_ 81), (1, u "java/time/Duration$Lazy"), (35, u "seconds"), (101, .class_ 220), (0, u "java/lang/Object"), (0, .fieldref 11 222), (0, .nameAndType 117 223), (0, u "J"), (0, .fieldref 11 225), (0, .nameAndType 226 227), (0, u "nanos"), (0, u "I"), (11, .class_ 241), (1, u "java/time/Duration$DurationUnits"), (9, u "()J"), (17, .class_ 271), (1, u "java/time/Duration$1"), (22, .long 1000000), (68, u "BI_NANOS_PER_SECOND"), (0, u "Ljava/math/BigInteger;"), (120, .class_ 486), (0, u "java/lang/Comparable"), (0, .class_ 488), (0, u "java/io/Serializable"), (0, u "serialVersionUID"), (111, u "toMillis")] 54

def k6c0 : Code := { maxStack := 6, maxLocals := 7, code := jdk_2316_method_57_code, exceptionTable := #[], attributes := #[] }
def k6m0 : Method := { name := "toMillis", desc := "()J", sig := { parameters := [], returnType := some .long }, accessFlags := 1, code := some k6c0 }
/-- java/time/Duration -/
def k6 : Class := { plain "java/time/Duration" (some 0) with
  accessFlags := 49
  interfaces := #[3, 4, 5]
  cf := some (fileOf pool6 11 #[.nestMembers #[269, 239, 79]] #[{ accessFlags := 1, nameIndex := 601, descriptorIndex := 251, attributes := #[] }] 49 219 #[49, 485, 487] #[{ accessFlags := 25, nameIndex := 34, descriptorIndex := 35, attributes := #[] }, { accessFlags := 26, nameIndex := 489, descriptorIndex := 223, attributes := #[] }, { accessFlags := 26, nameIndex := 363, descriptorIndex := 364, attributes := #[] }, { accessFlags := 18, nameIndex := 117, descriptorIndex := 223, attributes := #[] }, { accessFlags := 18, nameIndex := 226, descriptorIndex := 227, attributes := #[] }])
  fields := #[{ name := "ZERO", type := (.object "java/time/Duration"), accessFlags := 25, slot := 0, constantValue := 0 }, { name := "serialVersionUID", type := .long, accessFlags := 26, slot := 1, constantValue := 0 }, { name := "BI_NANOS_PER_SECOND", type := (.object "java/math/BigInteger"), accessFlags := 26, slot := 2, constantValue := 0 }, { name := "seconds", type := .long, accessFlags := 18, slot := 0, constantValue := 0 }, { name := "nanos", type := .int, accessFlags := 18, slot := 1, constantValue := 0 }]
  methods := #[k6m0]
  instanceTypes := #[.long, .int]
  staticTypes := #[(.object "java/time/Duration"), .long, (.object "java/math/BigInteger")]
  resolved := Array.replicate 656 none
  statics := none }

def pool7 : Array CpInfo := pool [(1, .class_ 2), (0, u "java/lang/Math"), (1, .class_ 6), (1, u "java/lang/Object"), (0, u "<init>"), (0, u "()V"), (89, .class_ 100), (1, u "java/lang/Math$RandomNumberGeneratorHolder"), (17, .methodref 1 119), (0, .nameAndType 120 121), (0, u "multiplyExact"), (0, u "(JJ)J"), (0, .methodref 1 123), (0, .nameAndType 124 125), (0, u "abs"), (0, u "(J)J"), (46, u "negativeZeroFloatBits"), (0, u "J"), (2, u "negativeZeroDoubleBits"), (21, u "max"), (46, u "$assertionsDisabled"), (0, u "Z"), (88, u "(II)I"), (2, u "twoToTheDoubleScaleDown"), (0, u "D"), (4, u "twoToTheDoubleScaleUp"), (9, u "E"), (3, u "PI"), (2, u "TAU"), (2, u "DEGREES_TO_RADIANS"), (0, u "RADIANS_TO_DEGREES"), (27, u "addExact"), (1, u "(JI)J")] 64

def k7m0 : Method := { name := "<init>", desc := "()V", sig := { parameters := [], returnType := none }, accessFlags := 2, code := none }
def k7c1 : Code := { maxStack := 6, maxLocals := 6, code := jdk_29_method_25_code, exceptionTable := #[], attributes := #[] }
def k7m1 : Method := { name := "addExact", desc := "(JJ)J", sig := { parameters := [.long, .long], returnType := some .long }, accessFlags := 9, code := some k7c1 }
def k7c2 : Code := { maxStack := 4, maxLocals := 3, code := jdk_29_method_29_code, exceptionTable := #[], attributes := #[] }
def k7m2 : Method := { name := "multiplyExact", desc := "(JI)J", sig := { parameters := [.long, .int], returnType := some .long }, accessFlags := 9, code := some k7c2 }
def k7c3 : Code := { maxStack := 4, maxLocals := 10, code := jdk_29_method_30_code, exceptionTable := #[], attributes := #[] }
def k7m3 : Method := { name := "multiplyExact", desc := "(JJ)J", sig := { parameters := [.long, .long], returnType := some .long }, accessFlags := 9, code := some k7c3 }
def k7c4 : Code := { maxStack := 4, maxLocals := 2, code := jdk_29_method_61_code, exceptionTable := #[], attributes := #[] }
def k7m4 : Method := { name := "abs", desc := "(J)J", sig := { parameters := [.long], returnType := some .long }, accessFlags := 9, code := some k7c4 }
def k7c5 : Code := { maxStack := 2, maxLocals := 2, code := jdk_29_method_65_code, exceptionTable := #[], attributes := #[] }
def k7m5 : Method := { name := "max", desc := "(II)I", sig := { parameters := [.int, .int], returnType := some .int }, accessFlags := 9, code := some k7c5 }
/-- java/lang/Math -/
def k7 : Class := { plain "java/lang/Math" (some 0) with
  accessFlags := 49
  interfaces := #[]
  cf := some (fileOf pool7 1 #[.nestMembers #[98]] #[{ accessFlags := 2, nameIndex := 7, descriptorIndex := 8, attributes := #[] }, { accessFlags := 9, nameIndex := 393, descriptorIndex := 121, attributes := #[] }, { accessFlags := 9, nameIndex := 120, descriptorIndex := 395, attributes := #[] }, { accessFlags := 9, nameIndex := 120, descriptorIndex := 121, attributes := #[] }, { accessFlags := 9, nameIndex := 124, descriptorIndex := 125, attributes := #[] }, { accessFlags := 9, nameIndex := 198, descriptorIndex := 335, attributes := #[] }] 49 4 #[] #[{ accessFlags := 25, nameIndex := 354, descriptorIndex := 339, attributes := #[] }, { accessFlags := 25, nameIndex := 358, descriptorIndex := 339, attributes := #[] }, { accessFlags := 25, nameIndex := 361, descriptorIndex := 339, attributes := #[] }, { accessFlags := 26, nameIndex := 364, descriptorIndex := 339, attributes := #[] }, { accessFlags := 26, nameIndex := 365, descriptorIndex := 339, attributes := #[] }, { accessFlags := 26, nameIndex := 172, descriptorIndex := 173, attributes := #[] }, { accessFlags := 26, nameIndex := 176, descriptorIndex := 173, attributes := #[] }, { accessFlags := 8, nameIndex := 344, descriptorIndex := 339, attributes := #[] }, { accessFlags := 8, nameIndex := 338, descriptorIndex := 339, attributes := #[] }, { accessFlags := 4120, nameIndex := 245, descriptorIndex := 246, attributes := #[] }])
  fields := #[{ name := "E", type := .double, accessFlags := 25, slot := 0, constantValue := 0 }, { name := "PI", type := .double, accessFlags := 25, slot := 1, constantValue := 0 }, { name := "TAU", type := .double, accessFlags := 25, slot := 2, constantValue := 0 }, { name := "DEGREES_TO_RADIANS", type := .double, accessFlags := 26, slot := 3, constantValue := 0 }, { name := "RADIANS_TO_DEGREES", type := .double, accessFlags := 26, slot := 4, constantValue := 0 }, { name := "negativeZeroFloatBits", type := .long, accessFlags := 26, slot := 5, constantValue := 0 }, { name := "negativeZeroDoubleBits", type := .long, accessFlags := 26, slot := 6, constantValue := 0 }, { name := "twoToTheDoubleScaleUp", type := .double, accessFlags := 8, slot := 7, constantValue := 0 }, { name := "twoToTheDoubleScaleDown", type := .double, accessFlags := 8, slot := 8, constantValue := 0 }, { name := "$assertionsDisabled", type := .boolean, accessFlags := 4120, slot := 9, constantValue := 0 }]
  methods := #[k7m0, k7m1, k7m2, k7m3, k7m4, k7m5]
  instanceTypes := #[]
  staticTypes := #[.double, .double, .double, .double, .double, .long, .long, .double, .double, .boolean]
  resolved := Array.replicate 460 none
  statics := none }

def pool8 : Array CpInfo := pool [(22, .class_ 24), (1, u "java/time/InstantSource"), (31, .class_ 57), (0, u "java/lang/Object")] 22

/-- java/time/InstantSource -/
def k8 : Class := { plain "java/time/InstantSource" (some 0) with
  accessFlags := 1537
  interfaces := #[]
  cf := some (fileOf pool8 22 #[] #[] 1537 56 #[] #[])
  fields := #[]
  methods := #[]
  instanceTypes := #[]
  staticTypes := #[]
  resolved := Array.replicate 80 none
  statics := none }

def pool9 : Array CpInfo := pool [(3, .fieldref 4 5), (0, .class_ 6), (0, .nameAndType 7 8), (0, u "java/time/Clock$SystemClock"), (0, u "UTC"), (0, u "Ljava/time/Clock$SystemClock;"), (8, u "<init>"), (14, .class_ 33), (0, u "java/time/Clock$TickClock"), (1, .class_ 37), (1, u "java/time/Clock"), (36, .class_ 75), (0, u "java/time/Clock$FixedClock"), (13, .class_ 90), (0, u "java/time/Clock$OffsetClock"), (4, .class_ 97), (1, u "java/lang/Object"), (0, u "()V"), (16, u "offset"), (0, u "J"), (44, u "OFFSET_SEED"), (0, .class_ 163), (0, u "java/time/InstantSource"), (0, u "systemUTC"), (0, u "()Ljava/time/Clock;"), (29, .class_ 196), (0, u "java/time/Clock$SourceClock"), (0, .class_ 198), (0, u "java/time/Clock$SystemInstantSource")] 7

def k9c0 : Code := { maxStack := 1, maxLocals := 0, code := jdk_2307_method_1_code, exceptionTable := #[], attributes := #[] }
def k9m0 : Method := { name := "systemUTC", desc := "()Ljava/time/Clock;", sig := { parameters := [], returnType := some (.object "java/time/Clock") }, accessFlags := 9, code := some k9c0 }
def k9m1 : Method := { name := "<init>", desc := "()V", sig := { parameters := [], returnType := none }, accessFlags := 4, code := none }
/-- java/time/Clock -/
def k9 : Class := { plain "java/time/Clock" (some 0) with
  accessFlags := 1057
  interfaces := #[8]
  cf := some (fileOf pool9 35 #[.nestMembers #[195, 32, 89, 74, 4, 197]] #[{ accessFlags := 9, nameIndex := 164, descriptorIndex := 165, attributes := #[] }, { accessFlags := 4, nameIndex := 17, descriptorIndex := 98, attributes := #[] }] 1057 95 #[162] #[{ accessFlags := 26, nameIndex := 161, descriptorIndex := 116, attributes := #[] }, { accessFlags := 10, nameIndex := 115, descriptorIndex := 116, attributes := #[] }])
  fields := #[{ name := "OFFSET_SEED", type := .long, accessFlags := 26, slot := 0, constantValue := 0 }, { name := "offset", type := .long, accessFlags := 10, slot := 1, constantValue := 0 }]
  methods := #[k9m0, k9m1]
  instanceTypes := #[]
  staticTypes := #[.long, .long]
  resolved := Array.replicate 206 none
  statics := none }

def pool10 : Array CpInfo := pool [(2, .class_ 4), (1, u "java/time/Clock"), (3, .class_ 10), (1, u "java/time/Clock$SystemClock"), (0, u "zone"), (0, u "Ljava/time/ZoneId;"), (45, u "UTC"), (3, u "Ljava/time/Clock$SystemClock;"), (0, .class_ 64), (0, u "java/io/Serializable"), (0, u "serialVersionUID"), (0, u "J")] 22

/-- java/time/Clock$SystemClock -/
def k10 : Class := { plain "java/time/Clock$SystemClock" (some 9) with
  accessFlags := 48
  interfaces := #[5]
  cf := some (fileOf pool10 8 #[.nestHost 2] #[] 48 2 #[63] #[{ accessFlags := 26, nameIndex := 65, descriptorIndex := 66, attributes := #[] }, { accessFlags := 24, nameIndex := 58, descriptorIndex := 62, attributes := #[] }, { accessFlags := 18, nameIndex := 11, descriptorIndex := 12, attributes := #[] }])
  fields := #[{ name := "serialVersionUID", type := .long, accessFlags := 26, slot := 0, constantValue := 0 }, { name := "UTC", type := (.object "java/time/Clock$SystemClock"), accessFlags := 24, slot := 1, constantValue := 0 }, { name := "zone", type := (.object "java/time/ZoneId"), accessFlags := 18, slot := 0, constantValue := 0 }]
  methods := #[]
  instanceTypes := #[(.object "java/time/ZoneId")]
  staticTypes := #[.long, (.object "java/time/Clock$SystemClock")]
  resolved := Array.replicate 89 none
  statics := some 1 }

def pool11 : Array CpInfo := pool [(1, u "java/lang/Cloneable"), (0, .class_ 1), (0, u "java/lang/Object"), (0, .class_ 3)] 3

/-- java/lang/Cloneable -/
def k11 : Class := { plain "java/lang/Cloneable" (some 0) with
  accessFlags := 1537
  interfaces := #[]
  cf := some (fileOf pool11 2 #[] #[] 1537 4 #[] #[])
  fields := #[]
  methods := #[]
  instanceTypes := #[]
  staticTypes := #[]
  resolved := Array.replicate 8 none
  statics := none }

/-- the primitive byte -/
def k12 : Class := { plain "byte" none with kind := .primitive 'B', accessFlags := 0x411 }
/-- [B -/
def k13 : Class := { plain "[B" (some 0) with kind := .array 12 .byte, interfaces := #[11, 5], accessFlags := 1041 }

/-- the primitive int -/
def k14 : Class := { plain "int" none with kind := .primitive 'I', accessFlags := 0x411 }
/-- [I -/
def k15 : Class := { plain "[I" (some 0) with kind := .array 14 .int, interfaces := #[11, 5], accessFlags := 1041 }

def heap : Heap := #[{ cls := 2, slots := #[.int 0, .ref 2, .ref 3], vm := .statics 2 },
  { cls := 10, slots := #[.long 0, .null], vm := .statics 10 },
  { cls := 6, slots := #[.long 10, .int 0], vm := .none },
  { cls := 6, slots := #[.long 30, .int 0], vm := .none }]
def classes : Array Class := #[k0, k1, k2, k3, k4, k5, k6, k7, k8, k9, k10, k11, k12, k13, k14, k15]
def interned : List (Array UInt16 × Addr) := []
def slotsUsed : Nat := 9
def theMethod : MethodId := ⟨1, 2⟩
def args0 : Array Value := #[.int 1, .int 2, .int 3]
def aboutOver (below : List Frame) : State where
  vm := { classes := classes, interned := interned.toArray }
  heap := heap
  slotsUsed := slotsUsed
  threads := #[{ frames := .invoking theMethod args0 :: below }]
def below0 : List Frame := [.native { method := ⟨0, 0⟩, args := #[] }]
def about1 : State := aboutOver below0
def p0 : Program := .bare "" "" ""
def e0 : Env := launch0.env 0 0 0
theorem w_frames : about1.frames = Frame.invoking theMethod args0 :: below0 := rfl
set_option maxRecDepth 65536 in
theorem w_args : argsFit about1.vm theMethod args0 = true := by decide +kernel
set_option maxRecDepth 65536 in
theorem w_heap : heapFits about1 = true := by decide +kernel
set_option maxRecDepth 65536 in
theorem w_runnable : about1.curStatus? = some .runnable := by decide +kernel
set_option maxRecDepth 65536 in
theorem w_alone : about1.alone = true := by decide +kernel
set_option maxRecDepth 65536 in
theorem w_named : about1.methodNamed? x = some theMethod := by decide +kernel
set_option maxRecDepth 65536 in
theorem w_hears : about1.hears theMethod below0 = true := by decide +kernel
set_option maxRecDepth 65536 in
theorem w_ripe : about1.ripe theMethod args0 below0 = true := by decide +kernel
theorem w_running : about1.status = .running := rfl
set_option maxRecDepth 65536 in
theorem w_room : about1.hasRoom e0.platform room_1 = true :=
  launch0.hasRoom_least _ room_1 (by decide +kernel) (by decide +kernel) (by decide +kernel) (by decide +kernel) (by decide +kernel) (by decide +kernel)
theorem allAtoms_all (ts : List Jvm.Cond) (a : Array Jvm.Value) (st : Jvm.State) : (allAtoms ts).before a st = ts.all (fun c => c.before a st) := by
  induction ts with
  | nil => rfl
  | cons c t ih =>
    show (Jvm.Cond.and c (allAtoms t)).before a st = _
    rw [Jvm.Cond.before_and, ih, List.all_cons]
def words1 : List Jvm.Cond := Jvm.Cond.code x code maxLocals ret :: tables_1
/-- a 'code' word, met by the world's own term for the bytes: nothing is compared byte by byte -/
theorem code_word {y : MethodName} {bytes : ByteArray} {mx : Nat} {rt : Option FieldType} {a : Array Value} {s : State} {m : MethodId} {meth : Method} {c : Code} (h1 : s.methodNamed? y = some m) (h2 : s.vm.method? m = some meth) (h3 : meth.code = some c) (h4 : c.code = bytes)
    (h5 : (c.maxLocals == mx && c.exceptionTable.isEmpty && decide (c.maxStack ≤ mostOperands) && decide (meth.sig.returnType = rt) && !meth.locks && decide (parseMethodDescriptor y.desc = some meth.sig)) = true) : (Jvm.Cond.code y bytes mx rt).before a s = true := by
  simp only [Bool.and_eq_true, beq_iff_eq, Bool.not_eq_true', decide_eq_true_eq] at h5
  obtain ⟨⟨⟨⟨⟨g1, g2⟩, g3⟩, g4⟩, g5⟩, g6⟩ := h5
  simp [Cond.before, Cond.holds, Cond.value, h1, h2, h3, h4, g1, g2, g3, g4, g5, g6]
def isCode : Jvm.Cond → Bool
  | .code _ _ _ _ => true
  | _ => false
theorem all_split {L : List Jvm.Cond} {P : Jvm.Cond → Bool} (h1 : L.all (fun c => isCode c || P c) = true) (h2 : ∀ c ∈ L.filter isCode, P c = true) : L.all P = true := by
  refine List.all_eq_true.mpr fun c hc => ?_
  have h := List.all_eq_true.mp h1 c hc
  rcases Bool.eq_false_or_eq_true (isCode c) with hi | hi
  · exact h2 c (List.mem_filter.mpr ⟨hc, hi⟩)
  · simpa [hi] using h
set_option maxRecDepth 65536 in
theorem w_c0 : (Jvm.Cond.code x code maxLocals ret).before args0 about1 = true := code_word (m := ⟨1, 2⟩) (meth := k1m2) (c := k1c2) (by decide +kernel) rfl rfl rfl (by decide +kernel)
set_option maxRecDepth 65536 in
theorem w_c1 : (Jvm.Cond.code ({ cls := "com/example/fairlead/fairlead/core/BreakerPolicy", name := "<init>", desc := "()V" } : Jvm.MethodName) prog_4_method_1_code (1 : Nat) (Option.none : Option Jvm.ClassFile.FieldType)).before args0 about1 = true := code_word (m := ⟨2, 0⟩) (meth := k2m0) (c := k2c0) (by decide +kernel) rfl rfl rfl (by decide +kernel)
set_option maxRecDepth 65536 in
theorem w_c2 : (Jvm.Cond.code ({ cls := "java/time/Duration", name := "toMillis", desc := "()J" } : Jvm.MethodName) jdk_2316_method_57_code (7 : Nat) (Option.some Jvm.ClassFile.FieldType.long)).before args0 about1 = true := code_word (m := ⟨6, 0⟩) (meth := k6m0) (c := k6c0) (by decide +kernel) rfl rfl rfl (by decide +kernel)
set_option maxRecDepth 65536 in
theorem w_c3 : (Jvm.Cond.code ({ cls := "java/lang/Math", name := "multiplyExact", desc := "(JI)J" } : Jvm.MethodName) jdk_29_method_29_code (3 : Nat) (Option.some Jvm.ClassFile.FieldType.long)).before args0 about1 = true := code_word (m := ⟨7, 2⟩) (meth := k7m2) (c := k7c2) (by decide +kernel) rfl rfl rfl (by decide +kernel)
set_option maxRecDepth 65536 in
theorem w_c4 : (Jvm.Cond.code ({ cls := "java/lang/Math", name := "multiplyExact", desc := "(JJ)J" } : Jvm.MethodName) jdk_29_method_30_code (10 : Nat) (Option.some Jvm.ClassFile.FieldType.long)).before args0 about1 = true := code_word (m := ⟨7, 3⟩) (meth := k7m3) (c := k7c3) (by decide +kernel) rfl rfl rfl (by decide +kernel)
set_option maxRecDepth 65536 in
theorem w_c5 : (Jvm.Cond.code ({ cls := "java/lang/Math", name := "abs", desc := "(J)J" } : Jvm.MethodName) jdk_29_method_61_code (2 : Nat) (Option.some Jvm.ClassFile.FieldType.long)).before args0 about1 = true := code_word (m := ⟨7, 4⟩) (meth := k7m4) (c := k7c4) (by decide +kernel) rfl rfl rfl (by decide +kernel)
set_option maxRecDepth 65536 in
theorem w_c6 : (Jvm.Cond.code ({ cls := "java/lang/Math", name := "addExact", desc := "(JJ)J" } : Jvm.MethodName) jdk_29_method_25_code (6 : Nat) (Option.some Jvm.ClassFile.FieldType.long)).before args0 about1 = true := code_word (m := ⟨7, 1⟩) (meth := k7m1) (c := k7c1) (by decide +kernel) rfl rfl rfl (by decide +kernel)
set_option maxRecDepth 65536 in
theorem w_c7 : (Jvm.Cond.code ({ cls := "java/time/Clock", name := "systemUTC", desc := "()Ljava/time/Clock;" } : Jvm.MethodName) jdk_2307_method_1_code (0 : Nat) (Option.some (Jvm.ClassFile.FieldType.object "java/time/Clock"))).before args0 about1 = true := code_word (m := ⟨9, 0⟩) (meth := k9m0) (c := k9c0) (by decide +kernel) rfl rfl rfl (by decide +kernel)
set_option maxRecDepth 65536 in
theorem w_c8 : (Jvm.Cond.code ({ cls := "com/example/fairlead/fairlead/core/BreakerPolicy", name := "<init>", desc := "(IJJLjava/time/Clock;)V" } : Jvm.MethodName) prog_4_method_2_code (7 : Nat) (Option.none : Option Jvm.ClassFile.FieldType)).before args0 about1 = true := code_word (m := ⟨2, 1⟩) (meth := k2m1) (c := k2c1) (by decide +kernel) rfl rfl rfl (by decide +kernel)
set_option maxRecDepth 65536 in
theorem w_c9 : (Jvm.Cond.code ({ cls := "java/lang/Object", name := "<init>", desc := "()V" } : Jvm.MethodName) object_method_1_code (1 : Nat) (Option.none : Option Jvm.ClassFile.FieldType)).before args0 about1 = true := code_word (m := ⟨0, 0⟩) (meth := k0m0) (c := k0c0) (by decide +kernel) rfl rfl rfl (by decide +kernel)
set_option maxRecDepth 65536 in
theorem w_c10 : (Jvm.Cond.code ({ cls := "java/lang/Math", name := "max", desc := "(II)I" } : Jvm.MethodName) jdk_29_method_65_code (2 : Nat) (Option.some Jvm.ClassFile.FieldType.int)).before args0 about1 = true := code_word (m := ⟨7, 5⟩) (meth := k7m5) (c := k7c5) (by decide +kernel) rfl rfl rfl (by decide +kernel)
set_option maxRecDepth 65536 in
theorem w_c11 : (Jvm.Cond.code ({ cls := "com/example/fairlead/fairlead/core/BreakerPolicy", name := "withTripFailures", desc := "(I)Lcom/example/fairlead/fairlead/core/BreakerPolicy;" } : Jvm.MethodName) prog_4_method_3_code (2 : Nat) (Option.some (Jvm.ClassFile.FieldType.object "com/example/fairlead/fairlead/core/BreakerPolicy"))).before args0 about1 = true := code_word (m := ⟨2, 2⟩) (meth := k2m2) (c := k2c2) (by decide +kernel) rfl rfl rfl (by decide +kernel)
set_option maxRecDepth 65536 in
theorem w_c12 : (Jvm.Cond.code ({ cls := "com/example/fairlead/fairlead/core/BreakerPolicy", name := "tripMillis", desc := "(I)J" } : Jvm.MethodName) prog_4_method_7_code (5 : Nat) (Option.some Jvm.ClassFile.FieldType.long)).before args0 about1 = true := code_word (m := ⟨2, 3⟩) (meth := k2m3) (c := k2c3) (by decide +kernel) rfl rfl rfl (by decide +kernel)
set_option maxRecDepth 65536 in
theorem w_c13 : (Jvm.Cond.code ({ cls := "com/example/fairlead/fairlead/core/BreakerPolicyTripMillisPinLaw", name := "expected", desc := "(II)J" } : Jvm.MethodName) method_2_code (4 : Nat) (Option.some Jvm.ClassFile.FieldType.long)).before args0 about1 = true := code_word (m := ⟨1, 1⟩) (meth := k1m1) (c := k1c1) (by decide +kernel) rfl rfl rfl (by decide +kernel)
def codes1 : List Jvm.Cond := [Jvm.Cond.code x code maxLocals ret, Jvm.Cond.code ({ cls := "com/example/fairlead/fairlead/core/BreakerPolicy", name := "<init>", desc := "()V" } : Jvm.MethodName) prog_4_method_1_code (1 : Nat) (Option.none : Option Jvm.ClassFile.FieldType), Jvm.Cond.code ({ cls := "java/time/Duration", name := "toMillis", desc := "()J" } : Jvm.MethodName) jdk_2316_method_57_code (7 : Nat) (Option.some Jvm.ClassFile.FieldType.long), Jvm.Cond.code ({ cls := "java/lang/Math", name := "multiplyExact", desc := "(JI)J" } : Jvm.MethodName) jdk_29_method_29_code (3 : Nat) (Option.some Jvm.ClassFile.FieldType.long), Jvm.Cond.code ({ cls := "java/lang/Math", name := "multiplyExact", desc := "(JJ)J" } : Jvm.MethodName) jdk_29_method_30_code (10 : Nat) (Option.some Jvm.ClassFile.FieldType.long), Jvm.Cond.code ({ cls := "java/lang/Math", name := "abs", desc := "(J)J" } : Jvm.MethodName) jdk_29_method_61_code (2 : Nat) (Option.some Jvm.ClassFile.FieldType.long), Jvm.Cond.code ({ cls := "java/lang/Math", name := "addExact", desc := "(JJ)J" } : Jvm.MethodName) jdk_29_method_25_code (6 : Nat) (Option.some Jvm.ClassFile.FieldType.long), Jvm.Cond.code ({ cls := "java/time/Clock", name := "systemUTC", desc := "()Ljava/time/Clock;" } : Jvm.MethodName) jdk_2307_method_1_code (0 : Nat) (Option.some (Jvm.ClassFile.FieldType.object "java/time/Clock")), Jvm.Cond.code ({ cls := "com/example/fairlead/fairlead/core/BreakerPolicy", name := "<init>", desc := "(IJJLjava/time/Clock;)V" } : Jvm.MethodName) prog_4_method_2_code (7 : Nat) (Option.none : Option Jvm.ClassFile.FieldType), Jvm.Cond.code ({ cls := "java/lang/Object", name := "<init>", desc := "()V" } : Jvm.MethodName) object_method_1_code (1 : Nat) (Option.none : Option Jvm.ClassFile.FieldType), Jvm.Cond.code ({ cls := "java/lang/Math", name := "max", desc := "(II)I" } : Jvm.MethodName) jdk_29_method_65_code (2 : Nat) (Option.some Jvm.ClassFile.FieldType.int), Jvm.Cond.code ({ cls := "com/example/fairlead/fairlead/core/BreakerPolicy", name := "withTripFailures", desc := "(I)Lcom/example/fairlead/fairlead/core/BreakerPolicy;" } : Jvm.MethodName) prog_4_method_3_code (2 : Nat) (Option.some (Jvm.ClassFile.FieldType.object "com/example/fairlead/fairlead/core/BreakerPolicy")), Jvm.Cond.code ({ cls := "com/example/fairlead/fairlead/core/BreakerPolicy", name := "tripMillis", desc := "(I)J" } : Jvm.MethodName) prog_4_method_7_code (5 : Nat) (Option.some Jvm.ClassFile.FieldType.long), Jvm.Cond.code ({ cls := "com/example/fairlead/fairlead/core/BreakerPolicyTripMillisPinLaw", name := "expected", desc := "(II)J" } : Jvm.MethodName) method_2_code (4 : Nat) (Option.some Jvm.ClassFile.FieldType.long)]
set_option maxRecDepth 65536 in
theorem codes_eq : words1.filter isCode = codes1 := rfl
theorem w_codes : ∀ c ∈ words1.filter isCode, c.before args0 about1 = true := by
  rw [codes_eq]
  intro c hc
  simp only [codes1, List.mem_cons, List.not_mem_nil, or_false] at hc
  rcases hc with rfl | rfl | rfl | rfl | rfl | rfl | rfl | rfl | rfl | rfl | rfl | rfl | rfl | rfl
  · exact w_c0
  · exact w_c1
  · exact w_c2
  · exact w_c3
  · exact w_c4
  · exact w_c5
  · exact w_c6
  · exact w_c7
  · exact w_c8
  · exact w_c9
  · exact w_c10
  · exact w_c11
  · exact w_c12
  · exact w_c13
set_option maxRecDepth 65536 in
theorem w_t1 : (words1.take 24).all (fun c => isCode c || c.before args0 about1) = true := by decide +kernel
set_option maxRecDepth 65536 in
theorem w_t2 : ((words1.drop 24).take 24).all (fun c => isCode c || c.before args0 about1) = true := by decide +kernel
set_option maxRecDepth 65536 in
theorem w_t3 : (((words1.drop 24).drop 24).take 24).all (fun c => isCode c || c.before args0 about1) = true := by decide +kernel
set_option maxRecDepth 65536 in
theorem w_t4 : (((words1.drop 24).drop 24).drop 24).all (fun c => isCode c || c.before args0 about1) = true := by decide +kernel
theorem w_tables : (allAtoms (Jvm.Cond.code x code maxLocals ret :: tables_1)).before args0 about1 = true := by
  rw [allAtoms_all]
  show words1.all (fun c => c.before args0 about1) = true
  refine all_split ?_ w_codes
  rw [← List.take_append_drop 24 words1, List.all_append, w_t1, ← List.take_append_drop 24 (words1.drop 24), List.all_append, w_t2, ← List.take_append_drop 24 ((words1.drop 24).drop 24), List.all_append, w_t3, w_t4]
  rfl
set_option maxRecDepth 65536 in
theorem w_case : (Jvm.Cond.and given_1 narrow_1).before args0 about1 = true := by decide +kernel
theorem w_applies : (headSpec (Jvm.Cond.code x code maxLocals ret :: tables_1) room_1).applies x e0.platform about1 = true :=
  (Spec.applies_iff w_frames).mpr ⟨w_running, w_runnable, w_alone, w_named, w_hears, w_ripe, w_room, w_tables⟩
theorem atStart : AtStart classFile x code maxLocals ret World_1 tables_1 room_1 Calls_1 rest_1 Pre_1 launch0 p0 e0 about1 theMethod args0 below0 :=
  ⟨lists_1, trivial, launch0.admits_env _ _ _, launch0.least_env, fairChoices_fair.cas, fairChoices_fair.clock, w_frames, w_args, w_heap, w_applies, trivial, trivial, w_case⟩
end start1
theorem witness_1 : WitnessClaimed_1 := ⟨start1.p0, start1.e0, start1.about1, start1.theMethod, start1.args0, start1.below0, start1.atStart⟩
end Jvm.Pilot.@@N@@
