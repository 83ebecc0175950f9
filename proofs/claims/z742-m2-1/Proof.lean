import JvmDerived
import JvmDerived.Pilot.@@N@@Statement
import JvmDerived.Pilot.@@N@@Code
set_option linter.unusedVariables false
set_option linter.unusedSimpArgs false
namespace Jvm.Pilot.@@N@@
open Jvm Jvm.ClassFile Sem Op Lib Jvm.Free Jvm.Stand Jvm.LawKit Jvm.RoadKit Bundle Jvm.Pilot.@@N@@.Jvm.D
/-! 0. the walk's goal, and how a step leads to it -/
def OGoal (p : Program) (e : Env) (below : List Frame) (Φ : Outcome → State → Prop) (T : State) (g : JFrame) : Prop :=
  ∃ s₂ o, Steps p.tables e below (T.setTop g) s₂ ∧ s₂.status = .running ∧ Ended s₂ below o ∧ Φ o s₂
theorem own_by {p : Program} {e : Env} {below : List Frame} {Φ : Outcome → State → Prop} {T T' : State} {g g' : JFrame}
    (st : ∀ t, Steps p.tables e below (T'.setTop g') t → Steps p.tables e below (T.setTop g) t) (G : OGoal p e below Φ T' g') : OGoal p e below Φ T g := by
  obtain ⟨s₂, o, h1, h2⟩ := G
  exact ⟨s₂, o, st _ h1, h2⟩
theorem own_enter {p : Program} {e : Env} {below : List Frame} {Φ : Outcome → State → Prop} {T : State} {g g' : JFrame} (q : g = g') (G : OGoal p e below Φ T g') :
    ∃ s₂ o, Steps p.tables e below (T.setTop g) s₂ ∧ s₂.status = .running ∧ Ended s₂ below o ∧ Φ o s₂ := by subst q; exact G
theorem own_kext {h h' : Heap} (E : Ext h h') : Keep h h' [] := (Keep.refl h []).ext E
theorem own_narR {ty : FieldType} {v : Value} (hty : ty.isReference = true) (h : v.isRef = true) : narrow ty v = v := by
  rcases ref_cases h with rfl | ⟨a, rfl⟩ <;> cases ty <;> first | rfl | (cases hty)
theorem own_fitR {ty : FieldType} {v : Value} (hty : ty.isReference = true) (h : v.isRef = true) : fits ty v = true := by
  rcases ref_cases h with rfl | ⟨a, rfl⟩ <;> cases ty <;> first | rfl | (cases hty)
theorem own_narC (x : Int32) : nar .char (x.toUInt32.toUInt16.toUInt32.toInt32) = x.toUInt32.toUInt16.toUInt32.toInt32 := by
  show (x.toUInt32.toUInt16.toUInt32.toInt32).toUInt32.toUInt16.toUInt32.toInt32 = _
  simp only [UInt32.toUInt32_toInt32, UInt16.toUInt16_toUInt32]
theorem own_narB (x : Int32) : nar .byte (x.toInt8.toInt32) = x.toInt8.toInt32 := by
  show (x.toInt8.toInt32).toInt8.toInt32 = _
  simp
theorem own_fldI {Z : State} {args : Array Value} {t : Term} {a : Addr} {C n d : String} {k : Int32} (ev : t.eval args Z none [] Z = some (.ref a)) (h : (Jvm.Cond.eq (.field t C n d) (.int k)).value args Z none Z [] = some true) : Fld Z Z.heap a C n d (.int k) :=
  Fld.start ((fld_at ev).symm.trans (eqv_i (Term.int_eval k) h))
theorem own_fldJ {Z : State} {args : Array Value} {t : Term} {a : Addr} {C n d : String} {k : Int64} (ev : t.eval args Z none [] Z = some (.ref a)) (h : (Jvm.Cond.eq (.field t C n d) (.long k)).value args Z none Z [] = some true) : Fld Z Z.heap a C n d (.long k) :=
  Fld.start ((fld_at ev).symm.trans (eqv_l (F := .long k) rfl h))
def Glob (Z : State) (wM : Addr) : Prop := Sta Z Z.heap "java/util/concurrent/TimeUnit" "MILLISECONDS" "Ljava/util/concurrent/TimeUnit;" (.ref wM) ∧ Exa Z Z.heap wM "java/util/concurrent/TimeUnit" ∧ Fld Z Z.heap wM "java/lang/Enum" "ordinal" "I" (.int (2 : Int32)) ∧ Fld Z Z.heap wM "java/util/concurrent/TimeUnit" "scale" "J" (.long (1000000 : Int64)) ∧ Fld Z Z.heap wM "java/util/concurrent/TimeUnit" "maxNanos" "J" (.long (9223372036854 : Int64))
def maxF (a b : Int64) : Int64 := if a < b then b else a
def nanoF (d : Int64) : Int64 := if (9223372036854 : Int64) < d then (9223372036854775807 : Int64) else d * (1000000 : Int64)
def trustF (s : Int64) : Int64 := nanoF (maxF (s - (1 : Int64)) (0 : Int64)) - nanoF (maxF (s - (1 : Int64)) (0 : Int64)) / (100 : Int64)
def refF (s : Int64) : Int64 := if (1 : Int64) < s then (if (9223372036854 : Int64) < s - (1 : Int64) then (9131138316486228049 : Int64) else (s - (1 : Int64)) * (990000 : Int64)) else (0 : Int64)
theorem own_max0 (a : Int64) : (maxF a (0 : Int64)).toInt = (if a.toInt < 0 then 0 else a.toInt) := by
  unfold maxF
  have e0 : (0 : Int64).toInt = 0 := rfl
  by_cases h : a < 0
  · have h' := h; rw [Int64.lt_iff_toInt_lt, e0] at h'; simp [h, h', e0]
  · have h' := h; rw [Int64.lt_iff_toInt_lt, e0] at h'; simp [h, h', e0]
theorem own_main (s : Int64) (hs : ¬ s = (-9223372036854775808 : Int64)) : trustF s = refF s ∧ ¬ trustF s < (0 : Int64) := by
  have r1 := Int64.le_toInt s
  have r2 := Int64.toInt_lt s
  have h0 : s.toInt ≠ -9223372036854775808 := fun q => hs (Int64.toInt_inj.mp (q.trans (by decide)))
  have c1 := c_lsub s (1 : Int64)
  have e1 : (1 : Int64).toInt = 1 := rfl
  have e0 : (0 : Int64).toInt = 0 := rfl
  have eL : (9223372036854 : Int64).toInt = 9223372036854 := rfl
  have eM : (9223372036854775807 : Int64).toInt = 9223372036854775807 := rfl
  have e6 : (1000000 : Int64).toInt = 1000000 := rfl
  have e9 : (990000 : Int64).toInt = 990000 := rfl
  have eh : (100 : Int64).toInt = 100 := rfl
  have eS : (9131138316486228049 : Int64).toInt = 9131138316486228049 := rfl
  rw [e1] at c1
  unfold trustF refF
  have hm := own_max0 (s - (1 : Int64))
  generalize s - (1 : Int64) = a at *
  generalize maxF a (0 : Int64) = b at *
  have a1 := Int64.le_toInt a
  have a2 := Int64.toInt_lt a
  have hA : a.toInt = s.toInt - 1 := by omega
  have hN : (nanoF b).toInt = (if 9223372036854 < b.toInt then 9223372036854775807 else b.toInt * 1000000) := by
    unfold nanoF
    by_cases h : (9223372036854 : Int64) < b
    · have h' := h; rw [Int64.lt_iff_toInt_lt, eL] at h'; simp [h, h', eM]
    · have h' := h; rw [Int64.lt_iff_toInt_lt, eL] at h'
      have c2 := c_lmul b (1000000 : Int64)
      rw [e6] at c2
      simp only [h, h', if_false]
      have b1 := Int64.le_toInt (b * (1000000 : Int64))
      have b2 := Int64.toInt_lt (b * (1000000 : Int64))
      generalize (b * (1000000 : Int64)).toInt = t at *
      split at hm <;> omega
  generalize nanoF b = N at *
  have c3 := (c_ldiv N (100 : Int64) 100 rfl (by decide)).1
  have c4 := c_lsub N (N / (100 : Int64))
  have d1 := Int64.le_toInt (N - N / (100 : Int64))
  have d2 := Int64.toInt_lt (N - N / (100 : Int64))
  have hN0 : 0 ≤ N.toInt := by split at hN <;> (split at hm <;> omega)
  have c5 := c3 hN0
  rw [c5] at c4
  have hD : (N - N / (100 : Int64)).toInt = N.toInt - N.toInt / 100 := by omega
  constructor
  · rw [← Int64.toInt_inj, hD]
    by_cases g1 : (1 : Int64) < s
    · have g1' := g1; rw [Int64.lt_iff_toInt_lt, e1] at g1'
      by_cases g2 : (9223372036854 : Int64) < a
      · have g2' := g2; rw [Int64.lt_iff_toInt_lt, eL] at g2'
        simp only [g1, g2, if_true, eS]
        split at hm <;> split at hN <;> omega
      · have g2' := g2; rw [Int64.lt_iff_toInt_lt, eL] at g2'
        have c6 := c_lmul a (990000 : Int64)
        rw [e9] at c6
        simp only [g1, g2, if_true, if_false]
        have b1 := Int64.le_toInt (a * (990000 : Int64))
        have b2 := Int64.toInt_lt (a * (990000 : Int64))
        generalize (a * (990000 : Int64)).toInt = t at *
        split at hm <;> split at hN <;> omega
    · have g1' := g1; rw [Int64.lt_iff_toInt_lt, e1] at g1'
      simp only [g1, if_false, e0]
      split at hm <;> split at hN <;> omega
  · rw [Int64.lt_iff_toInt_lt, hD, e0]
    omega
theorem own_d1_0 : decode method_2_code 0 = .ok (.iload_n 2, 1) := by decide +kernel
theorem own_d1_1 : decode method_2_code 1 = .ok (.iconst 3, 1) := by decide +kernel
theorem own_d1_2 : decode method_2_code 2 = .ok (.iand, 1) := by decide +kernel
theorem own_d1_3 : decode method_2_code 3 = .ok (.istore_n 3, 1) := by decide +kernel
theorem own_d1_4 : decode method_2_code 4 = .ok (.iload_n 3, 1) := by decide +kernel
theorem own_d1_5 : decode method_2_code 5 = .ok (.ifCond .ne 5, 3) := by decide +kernel
theorem own_d1_8 : decode method_2_code 8 = .ok (.lload_n 0, 1) := by decide +kernel
theorem own_d1_9 : decode method_2_code 9 = .ok (.lreturn, 1) := by decide +kernel
theorem own_d1_10 : decode method_2_code 10 = .ok (.iload_n 3, 1) := by decide +kernel
theorem own_d1_11 : decode method_2_code 11 = .ok (.iconst 1, 1) := by decide +kernel
theorem own_d1_12 : decode method_2_code 12 = .ok (.if_icmp .ne 9, 3) := by decide +kernel
theorem own_d1_15 : decode method_2_code 15 = .ok (.lload_n 0, 1) := by decide +kernel
theorem own_d1_16 : decode method_2_code 16 = .ok (.ldc2_w 7, 3) := by decide +kernel
theorem own_d1_19 : decode method_2_code 19 = .ok (.lrem, 1) := by decide +kernel
theorem own_d1_20 : decode method_2_code 20 = .ok (.lreturn, 1) := by decide +kernel
theorem own_d1_21 : decode method_2_code 21 = .ok (.iload_n 3, 1) := by decide +kernel
theorem own_d1_22 : decode method_2_code 22 = .ok (.iconst 2, 1) := by decide +kernel
theorem own_d1_23 : decode method_2_code 23 = .ok (.if_icmp .ne 13, 3) := by decide +kernel
theorem own_d1_26 : decode method_2_code 26 = .ok (.ldc2_w 9, 3) := by decide +kernel
theorem own_d1_29 : decode method_2_code 29 = .ok (.lload_n 0, 1) := by decide +kernel
theorem own_d1_30 : decode method_2_code 30 = .ok (.ldc2_w 7, 3) := by decide +kernel
theorem own_d1_33 : decode method_2_code 33 = .ok (.lrem, 1) := by decide +kernel
theorem own_d1_34 : decode method_2_code 34 = .ok (.ladd, 1) := by decide +kernel
theorem own_d1_35 : decode method_2_code 35 = .ok (.lreturn, 1) := by decide +kernel
theorem own_d1_36 : decode method_2_code 36 = .ok (.lload_n 0, 1) := by decide +kernel
theorem own_d1_37 : decode method_2_code 37 = .ok (.ldc2_w 7, 3) := by decide +kernel
theorem own_d1_40 : decode method_2_code 40 = .ok (.land, 1) := by decide +kernel
theorem own_d1_41 : decode method_2_code 41 = .ok (.lconst 0, 1) := by decide +kernel
theorem own_d1_42 : decode method_2_code 42 = .ok (.lcmp, 1) := by decide +kernel
theorem own_d1_43 : decode method_2_code 43 = .ok (.ifCond .eq 13, 3) := by decide +kernel
theorem own_d1_46 : decode method_2_code 46 = .ok (.ldc2_w 13, 3) := by decide +kernel
theorem own_d1_49 : decode method_2_code 49 = .ok (.lload_n 0, 1) := by decide +kernel
theorem own_d1_50 : decode method_2_code 50 = .ok (.ldc2_w 15, 3) := by decide +kernel
theorem own_d1_53 : decode method_2_code 53 = .ok (.land, 1) := by decide +kernel
theorem own_d1_54 : decode method_2_code 54 = .ok (.lsub, 1) := by decide +kernel
theorem own_d1_55 : decode method_2_code 55 = .ok (.lreturn, 1) := by decide +kernel
theorem own_d1_56 : decode method_2_code 56 = .ok (.ldc2_w 17, 3) := by decide +kernel
theorem own_d1_59 : decode method_2_code 59 = .ok (.lload_n 0, 1) := by decide +kernel
theorem own_d1_60 : decode method_2_code 60 = .ok (.ldc2_w 15, 3) := by decide +kernel
theorem own_d1_63 : decode method_2_code 63 = .ok (.land, 1) := by decide +kernel
theorem own_d1_64 : decode method_2_code 64 = .ok (.ladd, 1) := by decide +kernel
theorem own_d1_65 : decode method_2_code 65 = .ok (.lreturn, 1) := by decide +kernel
theorem own_pn_com_example_leasy_leasy_LeaseLengthTrustedElapsedNanosPinLaw : plainName "com/example/leasy/leasy/LeaseLengthTrustedElapsedNanosPinLaw" = true := by first | (simp [plainName, overriddenIn]; done) | decide +kernel
theorem own_ef_rmP (m : MethodId) (x0 : Int64) (x1 : Int32) : entryFrame m #[(.long x0), (.int x1)] 4 = mkF m 0 #[.val (.long x0), .second, .val (.int x1), .unset] [] := by first | (simp [entryFrame, mkF, argsToLocals, Value.category]; done) | rfl
def Q_rmP (Z : State) (wM : Addr) (x0 : Int64) (pk : Int32) (h0 : Heap) (n0 : Nat) (vv_ : Option Value) (hh_ : Heap) (LL_ : List Loc) : Prop := ∃ r : Int64, vv_ = some (.long r) ∧ Fr n0 LL_ ∧ hh_ = h0
set_option maxRecDepth 65536 in
set_option maxHeartbeats 40000000 in
theorem rmP (l : Launch) (Z : State) (a0 : Array Value) (hw : ∀ d ∈ tables_1, d.before a0 Z = true) (ws : List Jvm.Cond) (wM : Addr) (GS : Glob Z wM) (x0 : Int64) (pk : Int32) (h0 : Heap) (n0 : Nat) (Z0 : n0 ≤ h0.size) (O0 : Old Z n0 h0) :
    MetFree l (⟨"com/example/leasy/leasy/LeaseLengthTrustedElapsedNanosPinLaw", "pickInput", "(JI)J"⟩ : MethodName) (head1 (Jvm.Cond.code (⟨"com/example/leasy/leasy/LeaseLengthTrustedElapsedNanosPinLaw", "pickInput", "(JI)J"⟩ : MethodName) method_2_code 4 (some .long) :: ws) ({ frames := 0, cells := 0, slots := 0, locals := 0 } : Room)) (fun aa_ UU_ => aa_ = #[(.long x0), (.int pk)] ∧ Z.Warmed39 UU_.vm ∧ UU_.heap = h0) (fun _ _ _ _ _ => True) (fun _ UU_ oo_ UV_ => ∃ vv_ LL_, oo_ = .returned vv_ ∧ Q_rmP Z wM x0 pk h0 n0 vv_ UV_.heap LL_ ∧ FrameEnd UU_ oo_ UV_ LL_ ({ frames := 0, cells := 0, slots := 0, locals := 0 } : Room).cells ({ frames := 0, cells := 0, slots := 0, locals := 0 } : Room).slots) := by
  refine MetFree.of_bodySF (plainFor_of_name own_pn_com_example_leasy_leasy_LeaseLengthTrustedElapsedNanosPinLaw) hisR ?_
  intro p e s m args below meth c s₁ Bd hml0 hP hK
  obtain ⟨rfl, hZ, hh⟩ := hP
  have hx := Bd.exec
  have hby := Bd.bytes
  have hml : c.maxLocals = 4 := hml0
  have hown : s.vm.findClass "com/example/leasy/leasy/LeaseLengthTrustedElapsedNanosPinLaw" = some m.cls := findClass_of_methodNamed Bd.named
  have hnm := (name_of_methodNamed Bd.named Bd.method).1
  have X0 : Stand p l e ({ frames := 0, cells := 0, slots := 0, locals := 0 } : Room) s m #[(.long x0), (.int pk)] below meth c s₁ [] 0 0 := Stand.of_body Bd
  have e0 : s₁.heap = h0 := by rw [← hh, Bd.state]; rfl
  have N0 := Fr.nil n0
  have hn0 : Z.heap.size = n0 := O0.1
  have KT0 : Keep h0 h0 [] := Keep.refl _ _
  refine own_enter (Φ := fun oo_ UV_ => ∃ vv_ LL_, oo_ = .returned vv_ ∧ Q_rmP Z wM x0 pk h0 n0 vv_ UV_.heap LL_ ∧ FrameEnd s oo_ UV_ LL_ ({ frames := 0, cells := 0, slots := 0, locals := 0 } : Room).cells ({ frames := 0, cells := 0, slots := 0, locals := 0 } : Room).slots) (own_ef_rmP m x0 pk) ?_
  refine own_by (T' := s₁) (g' := (mkF m 1 #[.val (.long x0), .second, .val (.int pk), .unset] [(.int pk)])) (fun _ kt_ => XS.iloadN X0.here hx rfl (hb hby own_d1_0) rfl kt_) ?_
  refine own_by (T' := s₁) (g' := (mkF m 2 #[.val (.long x0), .second, .val (.int pk), .unset] [(.int (3 : Int32)), (.int pk)])) (fun _ kt_ => XS.iconst X0.here hx rfl (hb hby own_d1_1) kt_) ?_
  refine own_by (T' := s₁) (g' := (mkF m 3 #[.val (.long x0), .second, .val (.int pk), .unset] [(.int (pk &&& (3 : Int32)))])) (fun _ kt_ => XS.iand X0.here hx rfl (hb hby own_d1_2) rfl kt_) ?_
  refine own_by (T' := s₁) (g' := (mkF m 4 #[.val (.long x0), .second, .val (.int pk), .val (.int (pk &&& (3 : Int32)))] [])) (fun _ kt_ => XS.istoreN X0.here hx rfl (hb hby own_d1_3) rfl (l' := #[.val (.long x0), .second, .val (.int pk), .val (.int (pk &&& (3 : Int32)))]) rfl kt_) ?_
  refine own_by (T' := s₁) (g' := (mkF m 5 #[.val (.long x0), .second, .val (.int pk), .val (.int (pk &&& (3 : Int32)))] [(.int (pk &&& (3 : Int32)))])) (fun _ kt_ => XS.iloadN X0.here hx rfl (hb hby own_d1_4) rfl kt_) ?_
  by_cases hc1 : (pk &&& (3 : Int32)) = (0 : Int32)
  · refine own_by (T' := s₁) (g' := (mkF m 8 #[.val (.long x0), .second, .val (.int pk), .val (.int (pk &&& (3 : Int32)))] [])) (fun _ kt_ => XS.ifNo X0.here hx rfl (hb hby own_d1_5) rfl (XT.i0_ne_f hc1) kt_) ?_
    refine own_by (T' := s₁) (g' := (mkF m 9 #[.val (.long x0), .second, .val (.int pk), .val (.int (pk &&& (3 : Int32)))] [(.long x0)])) (fun _ kt_ => XS.lloadN X0.here hx rfl (hb hby own_d1_8) rfl kt_) ?_
    obtain ⟨fs2, hr2, hrun2, hended2, hW2, hsame2⟩ := X0.leave (v := some (.long x0)) (fun h => by rw [Bd.returns] at h; cases h)
    refine ⟨_, _, retOut X0 hx (t := .long) Bd.returns rfl (Or.inr (Or.inl ⟨rfl, rfl, _, rfl⟩)) (hb hby own_d1_9) hr2, hrun2, hended2, _, _, rfl, ?_, ⟨_, rfl⟩, hW2, hsame2.mono (by decide) (by decide)⟩
    show Q_rmP Z wM x0 pk h0 n0 _ s₁.heap _
    exact ⟨x0, rfl, N0, e0⟩
  · refine own_by (T' := s₁) (g' := (mkF m 10 #[.val (.long x0), .second, .val (.int pk), .val (.int (pk &&& (3 : Int32)))] [])) (fun _ kt_ => XS.ifYes X0.here hx rfl (pc0 := 5) (pc' := 10) rfl (hb hby own_d1_5) rfl (XT.i0_ne_t hc1) (by decide) (by decide) kt_) ?_
    refine own_by (T' := s₁) (g' := (mkF m 11 #[.val (.long x0), .second, .val (.int pk), .val (.int (pk &&& (3 : Int32)))] [(.int (pk &&& (3 : Int32)))])) (fun _ kt_ => XS.iloadN X0.here hx rfl (hb hby own_d1_10) rfl kt_) ?_
    refine own_by (T' := s₁) (g' := (mkF m 12 #[.val (.long x0), .second, .val (.int pk), .val (.int (pk &&& (3 : Int32)))] [(.int (1 : Int32)), (.int (pk &&& (3 : Int32)))])) (fun _ kt_ => XS.iconst X0.here hx rfl (hb hby own_d1_11) kt_) ?_
    by_cases hc3 : (pk &&& (3 : Int32)) = (1 : Int32)
    · refine own_by (T' := s₁) (g' := (mkF m 15 #[.val (.long x0), .second, .val (.int pk), .val (.int (pk &&& (3 : Int32)))] [])) (fun _ kt_ => XS.icmpNo X0.here hx rfl (hb hby own_d1_12) rfl (XT.ii_ne_f hc3) kt_) ?_
      refine own_by (T' := s₁) (g' := (mkF m 16 #[.val (.long x0), .second, .val (.int pk), .val (.int (pk &&& (3 : Int32)))] [(.long x0)])) (fun _ kt_ => XS.lloadN X0.here hx rfl (hb hby own_d1_15) rfl kt_) ?_
      refine own_by (T' := s₁) (g' := (mkF m 19 #[.val (.long x0), .second, .val (.int pk), .val (.int (pk &&& (3 : Int32)))] [(.long (8 : Int64)), (.long x0)])) (fun _ kt_ => X0.ldc2Long hx hown (mvT hZ (hw _ (List.mem_of_getElem? (i := 5) rfl))) (g := (mkF m 16 #[.val (.long x0), .second, .val (.int pk), .val (.int (pk &&& (3 : Int32)))] [(.long x0)])) rfl (hb hby own_d1_16) _ kt_) ?_
      refine own_by (T' := s₁) (g' := (mkF m 20 #[.val (.long x0), .second, .val (.int pk), .val (.int (pk &&& (3 : Int32)))] [(.long (x0 - (x0 / (8 : Int64)) * (8 : Int64)))])) (fun _ kt_ => XS.lrem X0.here hx rfl (hb hby own_d1_19) rfl (by decide) kt_) ?_
      obtain ⟨fs5, hr5, hrun5, hended5, hW5, hsame5⟩ := X0.leave (v := some (.long (x0 - (x0 / (8 : Int64)) * (8 : Int64)))) (fun h => by rw [Bd.returns] at h; cases h)
      refine ⟨_, _, retOut X0 hx (t := .long) Bd.returns rfl (Or.inr (Or.inl ⟨rfl, rfl, _, rfl⟩)) (hb hby own_d1_20) hr5, hrun5, hended5, _, _, rfl, ?_, ⟨_, rfl⟩, hW5, hsame5.mono (by decide) (by decide)⟩
      show Q_rmP Z wM x0 pk h0 n0 _ s₁.heap _
      exact ⟨(x0 - (x0 / (8 : Int64)) * (8 : Int64)), rfl, N0, e0⟩
    · refine own_by (T' := s₁) (g' := (mkF m 21 #[.val (.long x0), .second, .val (.int pk), .val (.int (pk &&& (3 : Int32)))] [])) (fun _ kt_ => XS.icmpYes X0.here hx rfl (pc0 := 12) (pc' := 21) rfl (hb hby own_d1_12) rfl (XT.ii_ne_t hc3) (by decide) (by decide) kt_) ?_
      refine own_by (T' := s₁) (g' := (mkF m 22 #[.val (.long x0), .second, .val (.int pk), .val (.int (pk &&& (3 : Int32)))] [(.int (pk &&& (3 : Int32)))])) (fun _ kt_ => XS.iloadN X0.here hx rfl (hb hby own_d1_21) rfl kt_) ?_
      refine own_by (T' := s₁) (g' := (mkF m 23 #[.val (.long x0), .second, .val (.int pk), .val (.int (pk &&& (3 : Int32)))] [(.int (2 : Int32)), (.int (pk &&& (3 : Int32)))])) (fun _ kt_ => XS.iconst X0.here hx rfl (hb hby own_d1_22) kt_) ?_
      by_cases hc6 : (pk &&& (3 : Int32)) = (2 : Int32)
      · refine own_by (T' := s₁) (g' := (mkF m 26 #[.val (.long x0), .second, .val (.int pk), .val (.int (pk &&& (3 : Int32)))] [])) (fun _ kt_ => XS.icmpNo X0.here hx rfl (hb hby own_d1_23) rfl (XT.ii_ne_f hc6) kt_) ?_
        refine own_by (T' := s₁) (g' := (mkF m 29 #[.val (.long x0), .second, .val (.int pk), .val (.int (pk &&& (3 : Int32)))] [(.long (9223372036855 : Int64))])) (fun _ kt_ => X0.ldc2Long hx hown (mvT hZ (hw _ (List.mem_of_getElem? (i := 4) rfl))) (g := (mkF m 26 #[.val (.long x0), .second, .val (.int pk), .val (.int (pk &&& (3 : Int32)))] [])) rfl (hb hby own_d1_26) _ kt_) ?_
        refine own_by (T' := s₁) (g' := (mkF m 30 #[.val (.long x0), .second, .val (.int pk), .val (.int (pk &&& (3 : Int32)))] [(.long x0), (.long (9223372036855 : Int64))])) (fun _ kt_ => XS.lloadN X0.here hx rfl (hb hby own_d1_29) rfl kt_) ?_
        refine own_by (T' := s₁) (g' := (mkF m 33 #[.val (.long x0), .second, .val (.int pk), .val (.int (pk &&& (3 : Int32)))] [(.long (8 : Int64)), (.long x0), (.long (9223372036855 : Int64))])) (fun _ kt_ => X0.ldc2Long hx hown (mvT hZ (hw _ (List.mem_of_getElem? (i := 5) rfl))) (g := (mkF m 30 #[.val (.long x0), .second, .val (.int pk), .val (.int (pk &&& (3 : Int32)))] [(.long x0), (.long (9223372036855 : Int64))])) rfl (hb hby own_d1_30) _ kt_) ?_
        refine own_by (T' := s₁) (g' := (mkF m 34 #[.val (.long x0), .second, .val (.int pk), .val (.int (pk &&& (3 : Int32)))] [(.long (x0 - (x0 / (8 : Int64)) * (8 : Int64))), (.long (9223372036855 : Int64))])) (fun _ kt_ => XS.lrem X0.here hx rfl (hb hby own_d1_33) rfl (by decide) kt_) ?_
        refine own_by (T' := s₁) (g' := (mkF m 35 #[.val (.long x0), .second, .val (.int pk), .val (.int (pk &&& (3 : Int32)))] [(.long ((9223372036855 : Int64) + (x0 - (x0 / (8 : Int64)) * (8 : Int64))))])) (fun _ kt_ => XS.ladd X0.here hx rfl (hb hby own_d1_34) rfl kt_) ?_
        obtain ⟨fs9, hr9, hrun9, hended9, hW9, hsame9⟩ := X0.leave (v := some (.long ((9223372036855 : Int64) + (x0 - (x0 / (8 : Int64)) * (8 : Int64))))) (fun h => by rw [Bd.returns] at h; cases h)
        refine ⟨_, _, retOut X0 hx (t := .long) Bd.returns rfl (Or.inr (Or.inl ⟨rfl, rfl, _, rfl⟩)) (hb hby own_d1_35) hr9, hrun9, hended9, _, _, rfl, ?_, ⟨_, rfl⟩, hW9, hsame9.mono (by decide) (by decide)⟩
        show Q_rmP Z wM x0 pk h0 n0 _ s₁.heap _
        exact ⟨((9223372036855 : Int64) + (x0 - (x0 / (8 : Int64)) * (8 : Int64))), rfl, N0, e0⟩
      · refine own_by (T' := s₁) (g' := (mkF m 36 #[.val (.long x0), .second, .val (.int pk), .val (.int (pk &&& (3 : Int32)))] [])) (fun _ kt_ => XS.icmpYes X0.here hx rfl (pc0 := 23) (pc' := 36) rfl (hb hby own_d1_23) rfl (XT.ii_ne_t hc6) (by decide) (by decide) kt_) ?_
        refine own_by (T' := s₁) (g' := (mkF m 37 #[.val (.long x0), .second, .val (.int pk), .val (.int (pk &&& (3 : Int32)))] [(.long x0)])) (fun _ kt_ => XS.lloadN X0.here hx rfl (hb hby own_d1_36) rfl kt_) ?_
        refine own_by (T' := s₁) (g' := (mkF m 40 #[.val (.long x0), .second, .val (.int pk), .val (.int (pk &&& (3 : Int32)))] [(.long (8 : Int64)), (.long x0)])) (fun _ kt_ => X0.ldc2Long hx hown (mvT hZ (hw _ (List.mem_of_getElem? (i := 5) rfl))) (g := (mkF m 37 #[.val (.long x0), .second, .val (.int pk), .val (.int (pk &&& (3 : Int32)))] [(.long x0)])) rfl (hb hby own_d1_37) _ kt_) ?_
        refine own_by (T' := s₁) (g' := (mkF m 41 #[.val (.long x0), .second, .val (.int pk), .val (.int (pk &&& (3 : Int32)))] [(.long (x0 &&& (8 : Int64)))])) (fun _ kt_ => XS.land X0.here hx rfl (hb hby own_d1_40) rfl kt_) ?_
        refine own_by (T' := s₁) (g' := (mkF m 42 #[.val (.long x0), .second, .val (.int pk), .val (.int (pk &&& (3 : Int32)))] [(.long (0 : Int64)), (.long (x0 &&& (8 : Int64)))])) (fun _ kt_ => XS.lconst X0.here hx rfl (hb hby own_d1_41) kt_) ?_
        refine own_by (T' := s₁) (g' := (mkF m 43 #[.val (.long x0), .second, .val (.int pk), .val (.int (pk &&& (3 : Int32)))] [(.int (XT.cmpL (x0 &&& (8 : Int64)) (0 : Int64)))])) (fun _ kt_ => XT.lcmp X0.here hx rfl (hb hby own_d1_42) rfl kt_) ?_
        by_cases hc11 : (x0 &&& (8 : Int64)) = (0 : Int64)
        · refine own_by (T' := s₁) (g' := (mkF m 56 #[.val (.long x0), .second, .val (.int pk), .val (.int (pk &&& (3 : Int32)))] [])) (fun _ kt_ => XS.ifYes X0.here hx rfl (pc0 := 43) (pc' := 56) rfl (hb hby own_d1_43) rfl (XT.ll_eq_t hc11) (by decide) (by decide) kt_) ?_
          refine own_by (T' := s₁) (g' := (mkF m 59 #[.val (.long x0), .second, .val (.int pk), .val (.int (pk &&& (3 : Int32)))] [(.long (-9223372036854775807 : Int64))])) (fun _ kt_ => X0.ldc2Long hx hown (mvT hZ (hw _ (List.mem_of_getElem? (i := 36) rfl))) (g := (mkF m 56 #[.val (.long x0), .second, .val (.int pk), .val (.int (pk &&& (3 : Int32)))] [])) rfl (hb hby own_d1_56) _ kt_) ?_
          refine own_by (T' := s₁) (g' := (mkF m 60 #[.val (.long x0), .second, .val (.int pk), .val (.int (pk &&& (3 : Int32)))] [(.long x0), (.long (-9223372036854775807 : Int64))])) (fun _ kt_ => XS.lloadN X0.here hx rfl (hb hby own_d1_59) rfl kt_) ?_
          refine own_by (T' := s₁) (g' := (mkF m 63 #[.val (.long x0), .second, .val (.int pk), .val (.int (pk &&& (3 : Int32)))] [(.long (7 : Int64)), (.long x0), (.long (-9223372036854775807 : Int64))])) (fun _ kt_ => X0.ldc2Long hx hown (mvT hZ (hw _ (List.mem_of_getElem? (i := 34) rfl))) (g := (mkF m 60 #[.val (.long x0), .second, .val (.int pk), .val (.int (pk &&& (3 : Int32)))] [(.long x0), (.long (-9223372036854775807 : Int64))])) rfl (hb hby own_d1_60) _ kt_) ?_
          refine own_by (T' := s₁) (g' := (mkF m 64 #[.val (.long x0), .second, .val (.int pk), .val (.int (pk &&& (3 : Int32)))] [(.long (x0 &&& (7 : Int64))), (.long (-9223372036854775807 : Int64))])) (fun _ kt_ => XS.land X0.here hx rfl (hb hby own_d1_63) rfl kt_) ?_
          refine own_by (T' := s₁) (g' := (mkF m 65 #[.val (.long x0), .second, .val (.int pk), .val (.int (pk &&& (3 : Int32)))] [(.long ((-9223372036854775807 : Int64) + (x0 &&& (7 : Int64))))])) (fun _ kt_ => XS.ladd X0.here hx rfl (hb hby own_d1_64) rfl kt_) ?_
          obtain ⟨fs14, hr14, hrun14, hended14, hW14, hsame14⟩ := X0.leave (v := some (.long ((-9223372036854775807 : Int64) + (x0 &&& (7 : Int64))))) (fun h => by rw [Bd.returns] at h; cases h)
          refine ⟨_, _, retOut X0 hx (t := .long) Bd.returns rfl (Or.inr (Or.inl ⟨rfl, rfl, _, rfl⟩)) (hb hby own_d1_65) hr14, hrun14, hended14, _, _, rfl, ?_, ⟨_, rfl⟩, hW14, hsame14.mono (by decide) (by decide)⟩
          show Q_rmP Z wM x0 pk h0 n0 _ s₁.heap _
          exact ⟨((-9223372036854775807 : Int64) + (x0 &&& (7 : Int64))), rfl, N0, e0⟩
        · refine own_by (T' := s₁) (g' := (mkF m 46 #[.val (.long x0), .second, .val (.int pk), .val (.int (pk &&& (3 : Int32)))] [])) (fun _ kt_ => XS.ifNo X0.here hx rfl (hb hby own_d1_43) rfl (XT.ll_eq_f hc11) kt_) ?_
          refine own_by (T' := s₁) (g' := (mkF m 49 #[.val (.long x0), .second, .val (.int pk), .val (.int (pk &&& (3 : Int32)))] [(.long (9223372036854775807 : Int64))])) (fun _ kt_ => X0.ldc2Long hx hown (mvT hZ (hw _ (List.mem_of_getElem? (i := 33) rfl))) (g := (mkF m 46 #[.val (.long x0), .second, .val (.int pk), .val (.int (pk &&& (3 : Int32)))] [])) rfl (hb hby own_d1_46) _ kt_) ?_
          refine own_by (T' := s₁) (g' := (mkF m 50 #[.val (.long x0), .second, .val (.int pk), .val (.int (pk &&& (3 : Int32)))] [(.long x0), (.long (9223372036854775807 : Int64))])) (fun _ kt_ => XS.lloadN X0.here hx rfl (hb hby own_d1_49) rfl kt_) ?_
          refine own_by (T' := s₁) (g' := (mkF m 53 #[.val (.long x0), .second, .val (.int pk), .val (.int (pk &&& (3 : Int32)))] [(.long (7 : Int64)), (.long x0), (.long (9223372036854775807 : Int64))])) (fun _ kt_ => X0.ldc2Long hx hown (mvT hZ (hw _ (List.mem_of_getElem? (i := 34) rfl))) (g := (mkF m 50 #[.val (.long x0), .second, .val (.int pk), .val (.int (pk &&& (3 : Int32)))] [(.long x0), (.long (9223372036854775807 : Int64))])) rfl (hb hby own_d1_50) _ kt_) ?_
          refine own_by (T' := s₁) (g' := (mkF m 54 #[.val (.long x0), .second, .val (.int pk), .val (.int (pk &&& (3 : Int32)))] [(.long (x0 &&& (7 : Int64))), (.long (9223372036854775807 : Int64))])) (fun _ kt_ => XS.land X0.here hx rfl (hb hby own_d1_53) rfl kt_) ?_
          refine own_by (T' := s₁) (g' := (mkF m 55 #[.val (.long x0), .second, .val (.int pk), .val (.int (pk &&& (3 : Int32)))] [(.long ((9223372036854775807 : Int64) - (x0 &&& (7 : Int64))))])) (fun _ kt_ => XS.lsub X0.here hx rfl (hb hby own_d1_54) rfl kt_) ?_
          obtain ⟨fs17, hr17, hrun17, hended17, hW17, hsame17⟩ := X0.leave (v := some (.long ((9223372036854775807 : Int64) - (x0 &&& (7 : Int64))))) (fun h => by rw [Bd.returns] at h; cases h)
          refine ⟨_, _, retOut X0 hx (t := .long) Bd.returns rfl (Or.inr (Or.inl ⟨rfl, rfl, _, rfl⟩)) (hb hby own_d1_55) hr17, hrun17, hended17, _, _, rfl, ?_, ⟨_, rfl⟩, hW17, hsame17.mono (by decide) (by decide)⟩
          show Q_rmP Z wM x0 pk h0 n0 _ s₁.heap _
          exact ⟨((9223372036854775807 : Int64) - (x0 &&& (7 : Int64))), rfl, N0, e0⟩
theorem own_d3_0 : decode jdk_29_method_66_code 0 = .ok (.lload_n 0, 1) := by decide +kernel
theorem own_d3_1 : decode jdk_29_method_66_code 1 = .ok (.lload_n 2, 1) := by decide +kernel
theorem own_d3_2 : decode jdk_29_method_66_code 2 = .ok (.lcmp, 1) := by decide +kernel
theorem own_d3_3 : decode jdk_29_method_66_code 3 = .ok (.ifCond .lt 7, 3) := by decide +kernel
theorem own_d3_6 : decode jdk_29_method_66_code 6 = .ok (.lload_n 0, 1) := by decide +kernel
theorem own_d3_7 : decode jdk_29_method_66_code 7 = .ok (.goto 4, 3) := by decide +kernel
theorem own_d3_10 : decode jdk_29_method_66_code 10 = .ok (.lload_n 2, 1) := by decide +kernel
theorem own_d3_11 : decode jdk_29_method_66_code 11 = .ok (.lreturn, 1) := by decide +kernel
theorem own_ef_rmM (m : MethodId) (x0 : Int64) (x1 : Int64) : entryFrame m #[(.long x0), (.long x1)] 4 = mkF m 0 #[.val (.long x0), .second, .val (.long x1), .second] [] := by first | (simp [entryFrame, mkF, argsToLocals, Value.category]; done) | rfl
def Q_rmM (Z : State) (wM : Addr) (a : Int64) (b : Int64) (h0 : Heap) (n0 : Nat) (vv_ : Option Value) (hh_ : Heap) (LL_ : List Loc) : Prop := vv_ = some (.long (maxF a b)) ∧ Fr n0 LL_ ∧ hh_ = h0
set_option maxRecDepth 65536 in
set_option maxHeartbeats 40000000 in
theorem rmM (l : Launch) (Z : State) (a0 : Array Value) (hw : ∀ d ∈ tables_1, d.before a0 Z = true) (ws : List Jvm.Cond) (wM : Addr) (GS : Glob Z wM) (a : Int64) (b : Int64) (h0 : Heap) (n0 : Nat) (Z0 : n0 ≤ h0.size) (O0 : Old Z n0 h0) :
    MetFree l (⟨"java/lang/Math", "max", "(JJ)J"⟩ : MethodName) (head1 (Jvm.Cond.code (⟨"java/lang/Math", "max", "(JJ)J"⟩ : MethodName) jdk_29_method_66_code 4 (some .long) :: ws) ({ frames := 0, cells := 0, slots := 0, locals := 0 } : Room)) (fun aa_ UU_ => aa_ = #[(.long a), (.long b)] ∧ Z.Warmed39 UU_.vm ∧ UU_.heap = h0) (fun _ _ _ _ _ => True) (fun _ UU_ oo_ UV_ => ∃ vv_ LL_, oo_ = .returned vv_ ∧ Q_rmM Z wM a b h0 n0 vv_ UV_.heap LL_ ∧ FrameEnd UU_ oo_ UV_ LL_ ({ frames := 0, cells := 0, slots := 0, locals := 0 } : Room).cells ({ frames := 0, cells := 0, slots := 0, locals := 0 } : Room).slots) := by
  refine MetFree.of_bodySF (Jvm.Free.JP.mathPlain rfl (by decide +kernel)) hisR ?_
  intro p e s m args below meth c s₁ Bd hml0 hP hK
  obtain ⟨rfl, hZ, hh⟩ := hP
  have hx := Bd.exec
  have hby := Bd.bytes
  have hml : c.maxLocals = 4 := hml0
  have hown : s.vm.findClass "java/lang/Math" = some m.cls := findClass_of_methodNamed Bd.named
  have hnm := (name_of_methodNamed Bd.named Bd.method).1
  have X0 : Stand p l e ({ frames := 0, cells := 0, slots := 0, locals := 0 } : Room) s m #[(.long a), (.long b)] below meth c s₁ [] 0 0 := Stand.of_body Bd
  have e0 : s₁.heap = h0 := by rw [← hh, Bd.state]; rfl
  have N0 := Fr.nil n0
  have hn0 : Z.heap.size = n0 := O0.1
  have KT0 : Keep h0 h0 [] := Keep.refl _ _
  refine own_enter (Φ := fun oo_ UV_ => ∃ vv_ LL_, oo_ = .returned vv_ ∧ Q_rmM Z wM a b h0 n0 vv_ UV_.heap LL_ ∧ FrameEnd s oo_ UV_ LL_ ({ frames := 0, cells := 0, slots := 0, locals := 0 } : Room).cells ({ frames := 0, cells := 0, slots := 0, locals := 0 } : Room).slots) (own_ef_rmM m a b) ?_
  refine own_by (T' := s₁) (g' := (mkF m 1 #[.val (.long a), .second, .val (.long b), .second] [(.long a)])) (fun _ kt_ => XS.lloadN X0.here hx rfl (hb hby own_d3_0) rfl kt_) ?_
  refine own_by (T' := s₁) (g' := (mkF m 2 #[.val (.long a), .second, .val (.long b), .second] [(.long b), (.long a)])) (fun _ kt_ => XS.lloadN X0.here hx rfl (hb hby own_d3_1) rfl kt_) ?_
  refine own_by (T' := s₁) (g' := (mkF m 3 #[.val (.long a), .second, .val (.long b), .second] [(.int (XT.cmpL a b))])) (fun _ kt_ => XT.lcmp X0.here hx rfl (hb hby own_d3_2) rfl kt_) ?_
  by_cases hc1 : a < b
  · refine own_by (T' := s₁) (g' := (mkF m 10 #[.val (.long a), .second, .val (.long b), .second] [])) (fun _ kt_ => XS.ifYes X0.here hx rfl (pc0 := 3) (pc' := 10) rfl (hb hby own_d3_3) rfl (XT.ll_lt_t hc1) (by decide) (by decide) kt_) ?_
    refine own_by (T' := s₁) (g' := (mkF m 11 #[.val (.long a), .second, .val (.long b), .second] [(.long b)])) (fun _ kt_ => XS.lloadN X0.here hx rfl (hb hby own_d3_10) rfl kt_) ?_
    have hr2 : b = (maxF a b) := by simp [maxF, hc1]
    obtain ⟨fs3, hr3, hrun3, hended3, hW3, hsame3⟩ := X0.leave (v := some (.long b)) (fun h => by rw [Bd.returns] at h; cases h)
    refine ⟨_, _, retOut X0 hx (t := .long) Bd.returns rfl (Or.inr (Or.inl ⟨rfl, rfl, _, rfl⟩)) (hb hby own_d3_11) hr3, hrun3, hended3, _, _, rfl, ?_, ⟨_, rfl⟩, hW3, hsame3.mono (by decide) (by decide)⟩
    show Q_rmM Z wM a b h0 n0 _ s₁.heap _
    exact ⟨(congrArg (fun z => some (Value.long z)) hr2), N0, e0⟩
  · refine own_by (T' := s₁) (g' := (mkF m 6 #[.val (.long a), .second, .val (.long b), .second] [])) (fun _ kt_ => XS.ifNo X0.here hx rfl (hb hby own_d3_3) rfl (XT.ll_lt_f hc1) kt_) ?_
    refine own_by (T' := s₁) (g' := (mkF m 7 #[.val (.long a), .second, .val (.long b), .second] [(.long a)])) (fun _ kt_ => XS.lloadN X0.here hx rfl (hb hby own_d3_6) rfl kt_) ?_
    refine own_by (T' := s₁) (g' := (mkF m 11 #[.val (.long a), .second, .val (.long b), .second] [(.long a)])) (fun _ kt_ => XS.goto X0.here hx rfl (pc0 := 7) (pc' := 11) rfl (hb hby own_d3_7) (by decide) (by decide) kt_) ?_
    have hr4 : a = (maxF a b) := by simp [maxF, hc1]
    obtain ⟨fs5, hr5, hrun5, hended5, hW5, hsame5⟩ := X0.leave (v := some (.long a)) (fun h => by rw [Bd.returns] at h; cases h)
    refine ⟨_, _, retOut X0 hx (t := .long) Bd.returns rfl (Or.inr (Or.inl ⟨rfl, rfl, _, rfl⟩)) (hb hby own_d3_11) hr5, hrun5, hended5, _, _, rfl, ?_, ⟨_, rfl⟩, hW5, hsame5.mono (by decide) (by decide)⟩
    show Q_rmM Z wM a b h0 n0 _ s₁.heap _
    exact ⟨(congrArg (fun z => some (Value.long z)) hr4), N0, e0⟩
theorem own_d4_0 : decode jdk_2799_method_7_code 0 = .ok (.aload_n 0, 1) := by decide +kernel
theorem own_d4_1 : decode jdk_2799_method_7_code 1 = .ok (.getfield 44, 3) := by decide +kernel
theorem own_d4_4 : decode jdk_2799_method_7_code 4 = .ok (.dup2, 1) := by decide +kernel
theorem own_d4_5 : decode jdk_2799_method_7_code 5 = .ok (.lstore_n 3, 1) := by decide +kernel
theorem own_d4_6 : decode jdk_2799_method_7_code 6 = .ok (.lconst 1, 1) := by decide +kernel
theorem own_d4_7 : decode jdk_2799_method_7_code 7 = .ok (.lcmp, 1) := by decide +kernel
theorem own_d4_8 : decode jdk_2799_method_7_code 8 = .ok (.ifCond .ne 5, 3) := by decide +kernel
theorem own_d4_13 : decode jdk_2799_method_7_code 13 = .ok (.lload_n 1, 1) := by decide +kernel
theorem own_d4_14 : decode jdk_2799_method_7_code 14 = .ok (.aload_n 0, 1) := by decide +kernel
theorem own_d4_15 : decode jdk_2799_method_7_code 15 = .ok (.getfield 52, 3) := by decide +kernel
theorem own_d4_18 : decode jdk_2799_method_7_code 18 = .ok (.dup2, 1) := by decide +kernel
theorem own_d4_19 : decode jdk_2799_method_7_code 19 = .ok (.lstore 5, 2) := by decide +kernel
theorem own_d4_21 : decode jdk_2799_method_7_code 21 = .ok (.lcmp, 1) := by decide +kernel
theorem own_d4_22 : decode jdk_2799_method_7_code 22 = .ok (.ifCond .le 7, 3) := by decide +kernel
theorem own_d4_25 : decode jdk_2799_method_7_code 25 = .ok (.ldc2_w 50, 3) := by decide +kernel
theorem own_d4_28 : decode jdk_2799_method_7_code 28 = .ok (.lreturn, 1) := by decide +kernel
theorem own_d4_29 : decode jdk_2799_method_7_code 29 = .ok (.lload_n 1, 1) := by decide +kernel
theorem own_d4_30 : decode jdk_2799_method_7_code 30 = .ok (.lload 5, 2) := by decide +kernel
theorem own_d4_32 : decode jdk_2799_method_7_code 32 = .ok (.lneg, 1) := by decide +kernel
theorem own_d4_33 : decode jdk_2799_method_7_code 33 = .ok (.lcmp, 1) := by decide +kernel
theorem own_d4_34 : decode jdk_2799_method_7_code 34 = .ok (.ifCond .ge 7, 3) := by decide +kernel
theorem own_d4_41 : decode jdk_2799_method_7_code 41 = .ok (.lload_n 1, 1) := by decide +kernel
theorem own_d4_42 : decode jdk_2799_method_7_code 42 = .ok (.lload_n 3, 1) := by decide +kernel
theorem own_d4_43 : decode jdk_2799_method_7_code 43 = .ok (.lmul, 1) := by decide +kernel
theorem own_d4_44 : decode jdk_2799_method_7_code 44 = .ok (.lreturn, 1) := by decide +kernel
theorem own_pn_java_util_concurrent_TimeUnit : plainName "java/util/concurrent/TimeUnit" = true := by first | (simp [plainName, overriddenIn]; done) | decide +kernel
theorem own_ef_rmN (m : MethodId) (x0 : Addr) (x1 : Int64) : entryFrame m #[(.ref x0), (.long x1)] 7 = mkF m 0 #[.val (.ref x0), .val (.long x1), .second, .unset, .unset, .unset, .unset] [] := by first | (simp [entryFrame, mkF, argsToLocals, Value.category]; done) | rfl
def Q_rmN (Z : State) (wM : Addr) (d : Int64) (h0 : Heap) (n0 : Nat) (vv_ : Option Value) (hh_ : Heap) (LL_ : List Loc) : Prop := vv_ = some (.long (nanoF d)) ∧ Fr n0 LL_ ∧ hh_ = h0
set_option maxRecDepth 65536 in
set_option maxHeartbeats 40000000 in
theorem rmN (l : Launch) (Z : State) (a0 : Array Value) (hw : ∀ d ∈ tables_1, d.before a0 Z = true) (ws : List Jvm.Cond) (wM : Addr) (GS : Glob Z wM) (d : Int64) (h0 : Heap) (n0 : Nat) (Z0 : n0 ≤ h0.size) (O0 : Old Z n0 h0) (hd : 0 ≤ d.toInt) :
    MetFree l (⟨"java/util/concurrent/TimeUnit", "toNanos", "(J)J"⟩ : MethodName) (head1 (Jvm.Cond.code (⟨"java/util/concurrent/TimeUnit", "toNanos", "(J)J"⟩ : MethodName) jdk_2799_method_7_code 7 (some .long) :: ws) ({ frames := 0, cells := 0, slots := 0, locals := 0 } : Room)) (fun aa_ UU_ => aa_ = #[(.ref wM), (.long d)] ∧ Z.Warmed39 UU_.vm ∧ UU_.heap = h0) (fun _ _ _ _ _ => True) (fun _ UU_ oo_ UV_ => ∃ vv_ LL_, oo_ = .returned vv_ ∧ Q_rmN Z wM d h0 n0 vv_ UV_.heap LL_ ∧ FrameEnd UU_ oo_ UV_ LL_ ({ frames := 0, cells := 0, slots := 0, locals := 0 } : Room).cells ({ frames := 0, cells := 0, slots := 0, locals := 0 } : Room).slots) := by
  refine MetFree.of_bodySF (plainFor_of_name own_pn_java_util_concurrent_TimeUnit) hisR ?_
  intro p e s m args below meth c s₁ Bd hml0 hP hK
  obtain ⟨rfl, hZ, hh⟩ := hP
  have hx := Bd.exec
  have hby := Bd.bytes
  have hml : c.maxLocals = 7 := hml0
  have hown : s.vm.findClass "java/util/concurrent/TimeUnit" = some m.cls := findClass_of_methodNamed Bd.named
  have hnm := (name_of_methodNamed Bd.named Bd.method).1
  have X0 : Stand p l e ({ frames := 0, cells := 0, slots := 0, locals := 0 } : Room) s m #[(.ref wM), (.long d)] below meth c s₁ [] 0 0 := Stand.of_body Bd
  have e0 : s₁.heap = h0 := by rw [← hh, Bd.state]; rfl
  have N0 := Fr.nil n0
  have hn0 : Z.heap.size = n0 := O0.1
  have KT0 : Keep h0 h0 [] := Keep.refl _ _
  refine own_enter (Φ := fun oo_ UV_ => ∃ vv_ LL_, oo_ = .returned vv_ ∧ Q_rmN Z wM d h0 n0 vv_ UV_.heap LL_ ∧ FrameEnd s oo_ UV_ LL_ ({ frames := 0, cells := 0, slots := 0, locals := 0 } : Room).cells ({ frames := 0, cells := 0, slots := 0, locals := 0 } : Room).slots) (own_ef_rmN m wM d) ?_
  refine own_by (T' := s₁) (g' := (mkF m 1 #[.val (.ref wM), .val (.long d), .second, .unset, .unset, .unset, .unset] [(.ref wM)])) (fun _ kt_ => XS.aloadN X0.here hx rfl (hb hby own_d4_0) rfl rfl kt_) ?_
  have f1 := GS.2.2.2.1.ext O0.2
  obtain ⟨T2, X2, e2, st2⟩ := getF X0 hx hZ hown (host := "") (Or.inl (hw _ (List.mem_of_getElem? (i := 22) rfl))) Via.refl e0 f1 (g := (mkF m 1 #[.val (.ref wM), .val (.long d), .second, .unset, .unset, .unset, .unset] [(.ref wM)])) rfl rfl (hb hby own_d4_1)
  refine own_by (T' := T2) (g' := (mkF m 4 #[.val (.ref wM), .val (.long d), .second, .unset, .unset, .unset, .unset] [(.long (1000000 : Int64))])) st2 ?_
  refine own_by (T' := T2) (g' := (mkF m 5 #[.val (.ref wM), .val (.long d), .second, .unset, .unset, .unset, .unset] [(.long (1000000 : Int64)), (.long (1000000 : Int64))])) (fun _ kt_ => ?_) ?_
  · show Steps p.tables e below (T2.setTop (mkF m 4 #[.val (.ref wM), .val (.long d), .second, .unset, .unset, .unset, .unset] [(.long (1000000 : Int64))])) _
    jvm_step X2.here [X2.here.top, hx, (hb hby own_d4_4), Value.category]
    exact kt_
  refine own_by (T' := T2) (g' := (mkF m 6 #[.val (.ref wM), .val (.long d), .second, .val (.long (1000000 : Int64)), .second, .unset, .unset] [(.long (1000000 : Int64))])) (fun _ kt_ => XS.lstoreN X2.here hx rfl (hb hby own_d4_5) rfl (l' := #[.val (.ref wM), .val (.long d), .second, .val (.long (1000000 : Int64)), .second, .unset, .unset]) rfl kt_) ?_
  refine own_by (T' := T2) (g' := (mkF m 7 #[.val (.ref wM), .val (.long d), .second, .val (.long (1000000 : Int64)), .second, .unset, .unset] [(.long (1 : Int64)), (.long (1000000 : Int64))])) (fun _ kt_ => XS.lconst X2.here hx rfl (hb hby own_d4_6) kt_) ?_
  refine own_by (T' := T2) (g' := (mkF m 8 #[.val (.ref wM), .val (.long d), .second, .val (.long (1000000 : Int64)), .second, .unset, .unset] [(.int (XT.cmpL (1000000 : Int64) (1 : Int64)))])) (fun _ kt_ => XT.lcmp X2.here hx rfl (hb hby own_d4_7) rfl kt_) ?_
  refine own_by (T' := T2) (g' := (mkF m 13 #[.val (.ref wM), .val (.long d), .second, .val (.long (1000000 : Int64)), .second, .unset, .unset] [])) (fun _ kt_ => XS.ifYes X2.here hx rfl (pc0 := 8) (pc' := 13) rfl (hb hby own_d4_8) rfl (XT.ll_ne_t (by decide)) (by decide) (by decide) kt_) ?_
  refine own_by (T' := T2) (g' := (mkF m 14 #[.val (.ref wM), .val (.long d), .second, .val (.long (1000000 : Int64)), .second, .unset, .unset] [(.long d)])) (fun _ kt_ => XS.lloadN X2.here hx rfl (hb hby own_d4_13) rfl kt_) ?_
  refine own_by (T' := T2) (g' := (mkF m 15 #[.val (.ref wM), .val (.long d), .second, .val (.long (1000000 : Int64)), .second, .unset, .unset] [(.ref wM), (.long d)])) (fun _ kt_ => XS.aloadN X2.here hx rfl (hb hby own_d4_14) rfl rfl kt_) ?_
  have f3 := GS.2.2.2.2.ext O0.2
  obtain ⟨T4, X4, e4, st4⟩ := getF X2 hx hZ hown (host := "") (Or.inl (hw _ (List.mem_of_getElem? (i := 24) rfl))) Via.refl e2 f3 (g := (mkF m 15 #[.val (.ref wM), .val (.long d), .second, .val (.long (1000000 : Int64)), .second, .unset, .unset] [(.ref wM), (.long d)])) rfl rfl (hb hby own_d4_15)
  refine own_by (T' := T4) (g' := (mkF m 18 #[.val (.ref wM), .val (.long d), .second, .val (.long (1000000 : Int64)), .second, .unset, .unset] [(.long (9223372036854 : Int64)), (.long d)])) st4 ?_
  refine own_by (T' := T4) (g' := (mkF m 19 #[.val (.ref wM), .val (.long d), .second, .val (.long (1000000 : Int64)), .second, .unset, .unset] [(.long (9223372036854 : Int64)), (.long (9223372036854 : Int64)), (.long d)])) (fun _ kt_ => ?_) ?_
  · show Steps p.tables e below (T4.setTop (mkF m 18 #[.val (.ref wM), .val (.long d), .second, .val (.long (1000000 : Int64)), .second, .unset, .unset] [(.long (9223372036854 : Int64)), (.long d)])) _
    jvm_step X4.here [X4.here.top, hx, (hb hby own_d4_18), Value.category]
    exact kt_
  refine own_by (T' := T4) (g' := (mkF m 21 #[.val (.ref wM), .val (.long d), .second, .val (.long (1000000 : Int64)), .second, .val (.long (9223372036854 : Int64)), .second] [(.long (9223372036854 : Int64)), (.long d)])) (fun _ kt_ => XS.lstore X4.here hx rfl (hb hby own_d4_19) rfl (l' := #[.val (.ref wM), .val (.long d), .second, .val (.long (1000000 : Int64)), .second, .val (.long (9223372036854 : Int64)), .second]) rfl kt_) ?_
  refine own_by (T' := T4) (g' := (mkF m 22 #[.val (.ref wM), .val (.long d), .second, .val (.long (1000000 : Int64)), .second, .val (.long (9223372036854 : Int64)), .second] [(.int (XT.cmpL d (9223372036854 : Int64)))])) (fun _ kt_ => XT.lcmp X4.here hx rfl (hb hby own_d4_21) rfl kt_) ?_
  by_cases hc5 : (9223372036854 : Int64) < d
  · refine own_by (T' := T4) (g' := (mkF m 25 #[.val (.ref wM), .val (.long d), .second, .val (.long (1000000 : Int64)), .second, .val (.long (9223372036854 : Int64)), .second] [])) (fun _ kt_ => XS.ifNo X4.here hx rfl (hb hby own_d4_22) rfl (XT.ll_le_f hc5) kt_) ?_
    refine own_by (T' := T4) (g' := (mkF m 28 #[.val (.ref wM), .val (.long d), .second, .val (.long (1000000 : Int64)), .second, .val (.long (9223372036854 : Int64)), .second] [(.long (9223372036854775807 : Int64))])) (fun _ kt_ => X4.ldc2Long hx hown (mvT hZ (hw _ (List.mem_of_getElem? (i := 26) rfl))) (g := (mkF m 25 #[.val (.ref wM), .val (.long d), .second, .val (.long (1000000 : Int64)), .second, .val (.long (9223372036854 : Int64)), .second] [])) rfl (hb hby own_d4_25) _ kt_) ?_
    have hr7 : (9223372036854775807 : Int64) = (nanoF d) := by simp [nanoF, hc5]
    obtain ⟨fs8, hr8, hrun8, hended8, hW8, hsame8⟩ := X4.leave (v := some (.long (9223372036854775807 : Int64))) (fun h => by rw [Bd.returns] at h; cases h)
    refine ⟨_, _, retOut X4 hx (t := .long) Bd.returns rfl (Or.inr (Or.inl ⟨rfl, rfl, _, rfl⟩)) (hb hby own_d4_28) hr8, hrun8, hended8, _, _, rfl, ?_, ⟨_, rfl⟩, hW8, hsame8.mono (by decide) (by decide)⟩
    show Q_rmN Z wM d h0 n0 _ T4.heap _
    exact ⟨(congrArg (fun z => some (Value.long z)) hr7), N0, e4⟩
  · refine own_by (T' := T4) (g' := (mkF m 29 #[.val (.ref wM), .val (.long d), .second, .val (.long (1000000 : Int64)), .second, .val (.long (9223372036854 : Int64)), .second] [])) (fun _ kt_ => XS.ifYes X4.here hx rfl (pc0 := 22) (pc' := 29) rfl (hb hby own_d4_22) rfl (XT.ll_le_t hc5) (by decide) (by decide) kt_) ?_
    refine own_by (T' := T4) (g' := (mkF m 30 #[.val (.ref wM), .val (.long d), .second, .val (.long (1000000 : Int64)), .second, .val (.long (9223372036854 : Int64)), .second] [(.long d)])) (fun _ kt_ => XS.lloadN X4.here hx rfl (hb hby own_d4_29) rfl kt_) ?_
    refine own_by (T' := T4) (g' := (mkF m 32 #[.val (.ref wM), .val (.long d), .second, .val (.long (1000000 : Int64)), .second, .val (.long (9223372036854 : Int64)), .second] [(.long (9223372036854 : Int64)), (.long d)])) (fun _ kt_ => XS.lload X4.here hx rfl (hb hby own_d4_30) rfl kt_) ?_
    refine own_by (T' := T4) (g' := (mkF m 33 #[.val (.ref wM), .val (.long d), .second, .val (.long (1000000 : Int64)), .second, .val (.long (9223372036854 : Int64)), .second] [(.long (-(9223372036854 : Int64))), (.long d)])) (fun _ kt_ => XS.lneg X4.here hx rfl (hb hby own_d4_32) rfl kt_) ?_
    refine own_by (T' := T4) (g' := (mkF m 34 #[.val (.ref wM), .val (.long d), .second, .val (.long (1000000 : Int64)), .second, .val (.long (9223372036854 : Int64)), .second] [(.int (XT.cmpL d (-(9223372036854 : Int64))))])) (fun _ kt_ => XT.lcmp X4.here hx rfl (hb hby own_d4_33) rfl kt_) ?_
    refine own_by (T' := T4) (g' := (mkF m 41 #[.val (.ref wM), .val (.long d), .second, .val (.long (1000000 : Int64)), .second, .val (.long (9223372036854 : Int64)), .second] [])) (fun _ kt_ => XS.ifYes X4.here hx rfl (pc0 := 34) (pc' := 41) rfl (hb hby own_d4_34) rfl (XT.ll_ge_t (by have e : (-(9223372036854 : Int64)).toInt = -9223372036854 := rfl; rw [Int64.lt_iff_toInt_lt, e]; omega)) (by decide) (by decide) kt_) ?_
    refine own_by (T' := T4) (g' := (mkF m 42 #[.val (.ref wM), .val (.long d), .second, .val (.long (1000000 : Int64)), .second, .val (.long (9223372036854 : Int64)), .second] [(.long d)])) (fun _ kt_ => XS.lloadN X4.here hx rfl (hb hby own_d4_41) rfl kt_) ?_
    refine own_by (T' := T4) (g' := (mkF m 43 #[.val (.ref wM), .val (.long d), .second, .val (.long (1000000 : Int64)), .second, .val (.long (9223372036854 : Int64)), .second] [(.long (1000000 : Int64)), (.long d)])) (fun _ kt_ => XS.lloadN X4.here hx rfl (hb hby own_d4_42) rfl kt_) ?_
    refine own_by (T' := T4) (g' := (mkF m 44 #[.val (.ref wM), .val (.long d), .second, .val (.long (1000000 : Int64)), .second, .val (.long (9223372036854 : Int64)), .second] [(.long (d * (1000000 : Int64)))])) (fun _ kt_ => XS.lmul X4.here hx rfl (hb hby own_d4_43) rfl kt_) ?_
    have hr9 : (d * (1000000 : Int64)) = (nanoF d) := by simp [nanoF, hc5]
    obtain ⟨fs10, hr10, hrun10, hended10, hW10, hsame10⟩ := X4.leave (v := some (.long (d * (1000000 : Int64)))) (fun h => by rw [Bd.returns] at h; cases h)
    refine ⟨_, _, retOut X4 hx (t := .long) Bd.returns rfl (Or.inr (Or.inl ⟨rfl, rfl, _, rfl⟩)) (hb hby own_d4_44) hr10, hrun10, hended10, _, _, rfl, ?_, ⟨_, rfl⟩, hW10, hsame10.mono (by decide) (by decide)⟩
    show Q_rmN Z wM d h0 n0 _ T4.heap _
    exact ⟨(congrArg (fun z => some (Value.long z)) hr9), N0, e4⟩
theorem own_pd_0 : parseMethodDescriptor "(JJ)J" = some ⟨[.long, .long], some .long⟩ := by decide +kernel
theorem own_pd_1 : parseMethodDescriptor "(J)J" = some ⟨[.long], some .long⟩ := by decide +kernel
theorem own_d2_0 : decode prog_2_method_3_code 0 = .ok (.getstatic 7, 3) := by decide +kernel
theorem own_d2_3 : decode prog_2_method_3_code 3 = .ok (.lload_n 0, 1) := by decide +kernel
theorem own_d2_4 : decode prog_2_method_3_code 4 = .ok (.lconst 1, 1) := by decide +kernel
theorem own_d2_5 : decode prog_2_method_3_code 5 = .ok (.lsub, 1) := by decide +kernel
theorem own_d2_6 : decode prog_2_method_3_code 6 = .ok (.lconst 0, 1) := by decide +kernel
theorem own_d2_7 : decode prog_2_method_3_code 7 = .ok (.invokestatic 30, 3) := by decide +kernel
theorem own_d2_10 : decode prog_2_method_3_code 10 = .ok (.invokevirtual 13, 3) := by decide +kernel
theorem own_d2_13 : decode prog_2_method_3_code 13 = .ok (.lstore_n 2, 1) := by decide +kernel
theorem own_d2_14 : decode prog_2_method_3_code 14 = .ok (.lload_n 2, 1) := by decide +kernel
theorem own_d2_15 : decode prog_2_method_3_code 15 = .ok (.lload_n 2, 1) := by decide +kernel
theorem own_d2_16 : decode prog_2_method_3_code 16 = .ok (.ldc2_w 19, 3) := by decide +kernel
theorem own_d2_19 : decode prog_2_method_3_code 19 = .ok (.ldiv, 1) := by decide +kernel
theorem own_d2_20 : decode prog_2_method_3_code 20 = .ok (.lsub, 1) := by decide +kernel
theorem own_d2_21 : decode prog_2_method_3_code 21 = .ok (.lreturn, 1) := by decide +kernel
theorem own_pn_com_example_leasy_leasy_LeaseLength : plainName "com/example/leasy/leasy/LeaseLength" = true := by first | (simp [plainName, overriddenIn]; done) | decide +kernel
theorem own_ef_rmT (m : MethodId) (x0 : Int64) : entryFrame m #[(.long x0)] 4 = mkF m 0 #[.val (.long x0), .second, .unset, .unset] [] := by first | (simp [entryFrame, mkF, argsToLocals, Value.category]; done) | rfl
def Q_rmT (Z : State) (wM : Addr) (sx : Int64) (h0 : Heap) (n0 : Nat) (vv_ : Option Value) (hh_ : Heap) (LL_ : List Loc) : Prop := vv_ = some (.long (trustF sx)) ∧ Fr n0 LL_ ∧ hh_ = h0
set_option maxRecDepth 65536 in
set_option maxHeartbeats 40000000 in
theorem rmT (l : Launch) (Z : State) (a0 : Array Value) (hw : ∀ d ∈ tables_1, d.before a0 Z = true) (ws : List Jvm.Cond) (wM : Addr) (GS : Glob Z wM) (sx : Int64) (h0 : Heap) (n0 : Nat) (Z0 : n0 ≤ h0.size) (O0 : Old Z n0 h0) :
    MetFree l (⟨"com/example/leasy/leasy/LeaseLength", "trustedElapsedNanos", "(J)J"⟩ : MethodName) (head1 (Jvm.Cond.code (⟨"com/example/leasy/leasy/LeaseLength", "trustedElapsedNanos", "(J)J"⟩ : MethodName) prog_2_method_3_code 4 (some .long) :: ws) ({ frames := 1, cells := 0, slots := 0, locals := 18 } : Room)) (fun aa_ UU_ => aa_ = #[(.long sx)] ∧ Z.Warmed39 UU_.vm ∧ UU_.heap = h0) (fun _ _ _ _ _ => True) (fun _ UU_ oo_ UV_ => ∃ vv_ LL_, oo_ = .returned vv_ ∧ Q_rmT Z wM sx h0 n0 vv_ UV_.heap LL_ ∧ FrameEnd UU_ oo_ UV_ LL_ ({ frames := 1, cells := 0, slots := 0, locals := 18 } : Room).cells ({ frames := 1, cells := 0, slots := 0, locals := 18 } : Room).slots) := by
  refine MetFree.of_bodySF (plainFor_of_name own_pn_com_example_leasy_leasy_LeaseLength) hisR ?_
  intro p e s m args below meth c s₁ Bd hml0 hP hK
  obtain ⟨rfl, hZ, hh⟩ := hP
  have hx := Bd.exec
  have hby := Bd.bytes
  have hml : c.maxLocals = 4 := hml0
  have hown : s.vm.findClass "com/example/leasy/leasy/LeaseLength" = some m.cls := findClass_of_methodNamed Bd.named
  have hnm := (name_of_methodNamed Bd.named Bd.method).1
  have X0 : Stand p l e ({ frames := 1, cells := 0, slots := 0, locals := 18 } : Room) s m #[(.long sx)] below meth c s₁ [] 0 0 := Stand.of_body Bd
  have e0 : s₁.heap = h0 := by rw [← hh, Bd.state]; rfl
  have N0 := Fr.nil n0
  have hn0 : Z.heap.size = n0 := O0.1
  have KT0 : Keep h0 h0 [] := Keep.refl _ _
  refine own_enter (Φ := fun oo_ UV_ => ∃ vv_ LL_, oo_ = .returned vv_ ∧ Q_rmT Z wM sx h0 n0 vv_ UV_.heap LL_ ∧ FrameEnd s oo_ UV_ LL_ ({ frames := 1, cells := 0, slots := 0, locals := 18 } : Room).cells ({ frames := 1, cells := 0, slots := 0, locals := 18 } : Room).slots) (own_ef_rmT m sx) ?_
  have f1 := GS.1.ext O0.2
  obtain ⟨T2, X2, e2, st2⟩ := getS2 X0 hx hZ hown (host := "") (Or.inl (hw _ (List.mem_of_getElem? (i := 11) rfl))) Via.refl e0 f1 (g := (mkF m 0 #[.val (.long sx), .second, .unset, .unset] [])) rfl (hb hby own_d2_0)
  refine own_by (T' := T2) (g' := (mkF m 3 #[.val (.long sx), .second, .unset, .unset] [(.ref wM)])) st2 ?_
  refine own_by (T' := T2) (g' := (mkF m 4 #[.val (.long sx), .second, .unset, .unset] [(.long sx), (.ref wM)])) (fun _ kt_ => XS.lloadN X2.here hx rfl (hb hby own_d2_3) rfl kt_) ?_
  refine own_by (T' := T2) (g' := (mkF m 5 #[.val (.long sx), .second, .unset, .unset] [(.long (1 : Int64)), (.long sx), (.ref wM)])) (fun _ kt_ => XS.lconst X2.here hx rfl (hb hby own_d2_4) kt_) ?_
  refine own_by (T' := T2) (g' := (mkF m 6 #[.val (.long sx), .second, .unset, .unset] [(.long (sx - (1 : Int64))), (.ref wM)])) (fun _ kt_ => XS.lsub X2.here hx rfl (hb hby own_d2_5) rfl kt_) ?_
  refine own_by (T' := T2) (g' := (mkF m 7 #[.val (.long sx), .second, .unset, .unset] [(.long (0 : Int64)), (.long (sx - (1 : Int64))), (.ref wM)])) (fun _ kt_ => XS.lconst X2.here hx rfl (hb hby own_d2_6) kt_) ?_
  obtain ⟨_, _, ⟨T3, L3, k3, n3⟩, -, X3, ⟨Lc3, hQ3, l3, y3, z3⟩, st3⟩ := Jvm.LawKit.callS X2 hx (y := (⟨"java/lang/Math", "max", "(JJ)J"⟩ : MethodName)) hown (mvT hZ (hw _ (List.mem_of_getElem? (i := 13) rfl))) (mvT hZ (hw _ (List.mem_of_getElem? (i := 14) rfl))) (mvT hZ (hw _ (List.mem_of_getElem? (i := 15) rfl))) (mvT hZ (hw _ (List.mem_of_getElem? (i := 16) rfl))) (by decide) (backOf (W := 1) (rmM l Z a0 hw [] wM GS (sx - (1 : Int64)) (0 : Int64) h0 n0 (by omega) O0 ) hZ (hw _ (List.mem_of_getElem? (i := 16) rfl)) (hw _ (List.mem_of_getElem? (i := 15) rfl)) (by decide) (by decide)) (g := (mkF m 7 #[.val (.long sx), .second, .unset, .unset] [(.long (0 : Int64)), (.long (sx - (1 : Int64))), (.ref wM)])) rfl (by rw [hml]; rfl) (argsL := [(.long (sx - (1 : Int64))), (.long (0 : Int64))]) (rest := [(.ref wM)]) (lenOf own_pd_0 rfl) rfl (by show 2 * 0 + _ ≤ _; exact Nat.le_of_eq rfl) (hb hby own_d2_7) (fun _ _ => ⟨rfl, e2, (by decide : 0 + 0 ≤ _), (by decide : 0 + 0 ≤ _)⟩)
  dsimp only [Pt.U, Pt.locs, Pt.cells, Pt.slots] at X3 l3 y3 z3 st3 hQ3
  subst l3 y3 z3
  obtain ⟨rfl, N3q, e3⟩ := hQ3
  have N4 := Fr.app N0 N3q
  refine own_by (T' := T3) (g' := (mkF m 10 #[.val (.long sx), .second, .unset, .unset] [(.long (maxF (sx - (1 : Int64)) (0 : Int64))), (.ref wM)])) st3 ?_
  have f6 := GS.2.1.ext O0.2
  obtain ⟨cq5, kq5, q5a, q5b, q5c⟩ := isOf hZ e3 f6
  obtain ⟨_, _, ⟨T5, L5, k5, n5⟩, -, X5, ⟨Lc5, hQ5, l5, y5, z5⟩, st5⟩ := X3.virtualBack hx (y := (⟨"java/util/concurrent/TimeUnit", "toNanos", "(J)J"⟩ : MethodName)) (z := (⟨"java/util/concurrent/TimeUnit", "toNanos", "(J)J"⟩ : MethodName)) hown (mvT hZ (hw _ (List.mem_of_getElem? (i := 17) rfl))) (mvT hZ (hw _ (List.mem_of_getElem? (i := 18) rfl))) (notFace_of_selects (args := #[]) (mvT hZ (hw _ (List.mem_of_getElem? (i := 20) rfl)))) (mvT hZ (hw _ (List.mem_of_getElem? (i := 20) rfl))) (mvT hZ (hw _ (List.mem_of_getElem? (i := 19) rfl))) (by decide) (backOf (W := 0) (rmN l Z a0 hw [] wM GS (maxF (sx - (1 : Int64)) (0 : Int64)) h0 n0 (by omega) O0 (by rw [own_max0]; split <;> omega)) hZ (hw _ (List.mem_of_getElem? (i := 21) rfl)) (hw _ (List.mem_of_getElem? (i := 12) rfl)) (by decide) (by decide)) q5a q5c (g := (mkF m 10 #[.val (.long sx), .second, .unset, .unset] [(.long (maxF (sx - (1 : Int64)) (0 : Int64))), (.ref wM)])) rfl (by rw [hml]; rfl) (Steps.refl _) (argsL := [(.long (maxF (sx - (1 : Int64)) (0 : Int64)))]) (rest := []) (lenOf own_pd_1 rfl) rfl (by show 2 * 0 + _ ≤ _; exact Nat.le_of_eq rfl) (hb hby own_d2_10) (fun _ _ => ⟨rfl, e3, (by decide : 0 + 0 ≤ _), (by decide : 0 + 0 ≤ _)⟩)
  dsimp only [Pt.U, Pt.locs, Pt.cells, Pt.slots] at X5 l5 y5 z5 st5 hQ5
  subst l5 y5 z5
  obtain ⟨rfl, N5q, e5⟩ := hQ5
  have N7 := Fr.app N4 N5q
  refine own_by (T' := T5) (g' := (mkF m 13 #[.val (.long sx), .second, .unset, .unset] [(.long (nanoF (maxF (sx - (1 : Int64)) (0 : Int64))))])) (fun _ kt_ => st5.trans kt_) ?_
  refine own_by (T' := T5) (g' := (mkF m 14 #[.val (.long sx), .second, .val (.long (nanoF (maxF (sx - (1 : Int64)) (0 : Int64)))), .second] [])) (fun _ kt_ => XS.lstoreN X5.here hx rfl (hb hby own_d2_13) rfl (l' := #[.val (.long sx), .second, .val (.long (nanoF (maxF (sx - (1 : Int64)) (0 : Int64)))), .second]) rfl kt_) ?_
  refine own_by (T' := T5) (g' := (mkF m 15 #[.val (.long sx), .second, .val (.long (nanoF (maxF (sx - (1 : Int64)) (0 : Int64)))), .second] [(.long (nanoF (maxF (sx - (1 : Int64)) (0 : Int64))))])) (fun _ kt_ => XS.lloadN X5.here hx rfl (hb hby own_d2_14) rfl kt_) ?_
  refine own_by (T' := T5) (g' := (mkF m 16 #[.val (.long sx), .second, .val (.long (nanoF (maxF (sx - (1 : Int64)) (0 : Int64)))), .second] [(.long (nanoF (maxF (sx - (1 : Int64)) (0 : Int64)))), (.long (nanoF (maxF (sx - (1 : Int64)) (0 : Int64))))])) (fun _ kt_ => XS.lloadN X5.here hx rfl (hb hby own_d2_15) rfl kt_) ?_
  refine own_by (T' := T5) (g' := (mkF m 19 #[.val (.long sx), .second, .val (.long (nanoF (maxF (sx - (1 : Int64)) (0 : Int64)))), .second] [(.long (100 : Int64)), (.long (nanoF (maxF (sx - (1 : Int64)) (0 : Int64)))), (.long (nanoF (maxF (sx - (1 : Int64)) (0 : Int64))))])) (fun _ kt_ => X5.ldc2Long hx hown (mvT hZ (hw _ (List.mem_of_getElem? (i := 27) rfl))) (g := (mkF m 16 #[.val (.long sx), .second, .val (.long (nanoF (maxF (sx - (1 : Int64)) (0 : Int64)))), .second] [(.long (nanoF (maxF (sx - (1 : Int64)) (0 : Int64)))), (.long (nanoF (maxF (sx - (1 : Int64)) (0 : Int64))))])) rfl (hb hby own_d2_16) _ kt_) ?_
  refine own_by (T' := T5) (g' := (mkF m 20 #[.val (.long sx), .second, .val (.long (nanoF (maxF (sx - (1 : Int64)) (0 : Int64)))), .second] [(.long ((nanoF (maxF (sx - (1 : Int64)) (0 : Int64))) / (100 : Int64))), (.long (nanoF (maxF (sx - (1 : Int64)) (0 : Int64))))])) (fun _ kt_ => XS.ldiv X5.here hx rfl (hb hby own_d2_19) rfl (by decide) kt_) ?_
  refine own_by (T' := T5) (g' := (mkF m 21 #[.val (.long sx), .second, .val (.long (nanoF (maxF (sx - (1 : Int64)) (0 : Int64)))), .second] [(.long ((nanoF (maxF (sx - (1 : Int64)) (0 : Int64))) - ((nanoF (maxF (sx - (1 : Int64)) (0 : Int64))) / (100 : Int64))))])) (fun _ kt_ => XS.lsub X5.here hx rfl (hb hby own_d2_20) rfl kt_) ?_
  have hr9 : ((nanoF (maxF (sx - (1 : Int64)) (0 : Int64))) - ((nanoF (maxF (sx - (1 : Int64)) (0 : Int64))) / (100 : Int64))) = (trustF sx) := rfl
  obtain ⟨fs10, hr10, hrun10, hended10, hW10, hsame10⟩ := X5.leave (v := some (.long ((nanoF (maxF (sx - (1 : Int64)) (0 : Int64))) - ((nanoF (maxF (sx - (1 : Int64)) (0 : Int64))) / (100 : Int64))))) (fun h => by rw [Bd.returns] at h; cases h)
  refine ⟨_, _, retOut X5 hx (t := .long) Bd.returns rfl (Or.inr (Or.inl ⟨rfl, rfl, _, rfl⟩)) (hb hby own_d2_21) hr10, hrun10, hended10, _, _, rfl, ?_, ⟨_, rfl⟩, hW10, hsame10.mono (by decide) (by decide)⟩
  show Q_rmT Z wM sx h0 n0 _ T5.heap _
  exact ⟨(congrArg (fun z => some (Value.long z)) hr9), N7, e5⟩
theorem own_d5_0 : decode method_3_code 0 = .ok (.lload_n 0, 1) := by decide +kernel
theorem own_d5_1 : decode method_3_code 1 = .ok (.lconst 1, 1) := by decide +kernel
theorem own_d5_2 : decode method_3_code 2 = .ok (.lcmp, 1) := by decide +kernel
theorem own_d5_3 : decode method_3_code 3 = .ok (.ifCond .gt 5, 3) := by decide +kernel
theorem own_d5_6 : decode method_3_code 6 = .ok (.lconst 0, 1) := by decide +kernel
theorem own_d5_7 : decode method_3_code 7 = .ok (.lreturn, 1) := by decide +kernel
theorem own_d5_8 : decode method_3_code 8 = .ok (.lload_n 0, 1) := by decide +kernel
theorem own_d5_9 : decode method_3_code 9 = .ok (.lconst 1, 1) := by decide +kernel
theorem own_d5_10 : decode method_3_code 10 = .ok (.lsub, 1) := by decide +kernel
theorem own_d5_11 : decode method_3_code 11 = .ok (.ldc2_w 21, 3) := by decide +kernel
theorem own_d5_14 : decode method_3_code 14 = .ok (.lcmp, 1) := by decide +kernel
theorem own_d5_15 : decode method_3_code 15 = .ok (.ifCond .gt 11, 3) := by decide +kernel
theorem own_d5_18 : decode method_3_code 18 = .ok (.lload_n 0, 1) := by decide +kernel
theorem own_d5_19 : decode method_3_code 19 = .ok (.lconst 1, 1) := by decide +kernel
theorem own_d5_20 : decode method_3_code 20 = .ok (.lsub, 1) := by decide +kernel
theorem own_d5_21 : decode method_3_code 21 = .ok (.ldc2_w 23, 3) := by decide +kernel
theorem own_d5_24 : decode method_3_code 24 = .ok (.lmul, 1) := by decide +kernel
theorem own_d5_25 : decode method_3_code 25 = .ok (.lreturn, 1) := by decide +kernel
theorem own_d5_26 : decode method_3_code 26 = .ok (.ldc2_w 25, 3) := by decide +kernel
theorem own_d5_29 : decode method_3_code 29 = .ok (.lreturn, 1) := by decide +kernel
theorem own_ef_rmR (m : MethodId) (x0 : Int64) : entryFrame m #[(.long x0)] 2 = mkF m 0 #[.val (.long x0), .second] [] := by first | (simp [entryFrame, mkF, argsToLocals, Value.category]; done) | rfl
def Q_rmR (Z : State) (wM : Addr) (sx : Int64) (h0 : Heap) (n0 : Nat) (vv_ : Option Value) (hh_ : Heap) (LL_ : List Loc) : Prop := vv_ = some (.long (refF sx)) ∧ Fr n0 LL_ ∧ hh_ = h0
set_option maxRecDepth 65536 in
set_option maxHeartbeats 40000000 in
theorem rmR (l : Launch) (Z : State) (a0 : Array Value) (hw : ∀ d ∈ tables_1, d.before a0 Z = true) (ws : List Jvm.Cond) (wM : Addr) (GS : Glob Z wM) (sx : Int64) (h0 : Heap) (n0 : Nat) (Z0 : n0 ≤ h0.size) (O0 : Old Z n0 h0) :
    MetFree l (⟨"com/example/leasy/leasy/LeaseLengthTrustedElapsedNanosPinLaw", "reference", "(J)J"⟩ : MethodName) (head1 (Jvm.Cond.code (⟨"com/example/leasy/leasy/LeaseLengthTrustedElapsedNanosPinLaw", "reference", "(J)J"⟩ : MethodName) method_3_code 2 (some .long) :: ws) ({ frames := 0, cells := 0, slots := 0, locals := 0 } : Room)) (fun aa_ UU_ => aa_ = #[(.long sx)] ∧ Z.Warmed39 UU_.vm ∧ UU_.heap = h0) (fun _ _ _ _ _ => True) (fun _ UU_ oo_ UV_ => ∃ vv_ LL_, oo_ = .returned vv_ ∧ Q_rmR Z wM sx h0 n0 vv_ UV_.heap LL_ ∧ FrameEnd UU_ oo_ UV_ LL_ ({ frames := 0, cells := 0, slots := 0, locals := 0 } : Room).cells ({ frames := 0, cells := 0, slots := 0, locals := 0 } : Room).slots) := by
  refine MetFree.of_bodySF (plainFor_of_name own_pn_com_example_leasy_leasy_LeaseLengthTrustedElapsedNanosPinLaw) hisR ?_
  intro p e s m args below meth c s₁ Bd hml0 hP hK
  obtain ⟨rfl, hZ, hh⟩ := hP
  have hx := Bd.exec
  have hby := Bd.bytes
  have hml : c.maxLocals = 2 := hml0
  have hown : s.vm.findClass "com/example/leasy/leasy/LeaseLengthTrustedElapsedNanosPinLaw" = some m.cls := findClass_of_methodNamed Bd.named
  have hnm := (name_of_methodNamed Bd.named Bd.method).1
  have X0 : Stand p l e ({ frames := 0, cells := 0, slots := 0, locals := 0 } : Room) s m #[(.long sx)] below meth c s₁ [] 0 0 := Stand.of_body Bd
  have e0 : s₁.heap = h0 := by rw [← hh, Bd.state]; rfl
  have N0 := Fr.nil n0
  have hn0 : Z.heap.size = n0 := O0.1
  have KT0 : Keep h0 h0 [] := Keep.refl _ _
  refine own_enter (Φ := fun oo_ UV_ => ∃ vv_ LL_, oo_ = .returned vv_ ∧ Q_rmR Z wM sx h0 n0 vv_ UV_.heap LL_ ∧ FrameEnd s oo_ UV_ LL_ ({ frames := 0, cells := 0, slots := 0, locals := 0 } : Room).cells ({ frames := 0, cells := 0, slots := 0, locals := 0 } : Room).slots) (own_ef_rmR m sx) ?_
  refine own_by (T' := s₁) (g' := (mkF m 1 #[.val (.long sx), .second] [(.long sx)])) (fun _ kt_ => XS.lloadN X0.here hx rfl (hb hby own_d5_0) rfl kt_) ?_
  refine own_by (T' := s₁) (g' := (mkF m 2 #[.val (.long sx), .second] [(.long (1 : Int64)), (.long sx)])) (fun _ kt_ => XS.lconst X0.here hx rfl (hb hby own_d5_1) kt_) ?_
  refine own_by (T' := s₁) (g' := (mkF m 3 #[.val (.long sx), .second] [(.int (XT.cmpL sx (1 : Int64)))])) (fun _ kt_ => XT.lcmp X0.here hx rfl (hb hby own_d5_2) rfl kt_) ?_
  by_cases hc1 : (1 : Int64) < sx
  · refine own_by (T' := s₁) (g' := (mkF m 8 #[.val (.long sx), .second] [])) (fun _ kt_ => XS.ifYes X0.here hx rfl (pc0 := 3) (pc' := 8) rfl (hb hby own_d5_3) rfl (XT.ll_gt_t hc1) (by decide) (by decide) kt_) ?_
    refine own_by (T' := s₁) (g' := (mkF m 9 #[.val (.long sx), .second] [(.long sx)])) (fun _ kt_ => XS.lloadN X0.here hx rfl (hb hby own_d5_8) rfl kt_) ?_
    refine own_by (T' := s₁) (g' := (mkF m 10 #[.val (.long sx), .second] [(.long (1 : Int64)), (.long sx)])) (fun _ kt_ => XS.lconst X0.here hx rfl (hb hby own_d5_9) kt_) ?_
    refine own_by (T' := s₁) (g' := (mkF m 11 #[.val (.long sx), .second] [(.long (sx - (1 : Int64)))])) (fun _ kt_ => XS.lsub X0.here hx rfl (hb hby own_d5_10) rfl kt_) ?_
    refine own_by (T' := s₁) (g' := (mkF m 14 #[.val (.long sx), .second] [(.long (9223372036854 : Int64)), (.long (sx - (1 : Int64)))])) (fun _ kt_ => X0.ldc2Long hx hown (mvT hZ (hw _ (List.mem_of_getElem? (i := 31) rfl))) (g := (mkF m 11 #[.val (.long sx), .second] [(.long (sx - (1 : Int64)))])) rfl (hb hby own_d5_11) _ kt_) ?_
    refine own_by (T' := s₁) (g' := (mkF m 15 #[.val (.long sx), .second] [(.int (XT.cmpL (sx - (1 : Int64)) (9223372036854 : Int64)))])) (fun _ kt_ => XT.lcmp X0.here hx rfl (hb hby own_d5_14) rfl kt_) ?_
    by_cases hc3 : (9223372036854 : Int64) < (sx - (1 : Int64))
    · refine own_by (T' := s₁) (g' := (mkF m 26 #[.val (.long sx), .second] [])) (fun _ kt_ => XS.ifYes X0.here hx rfl (pc0 := 15) (pc' := 26) rfl (hb hby own_d5_15) rfl (XT.ll_gt_t hc3) (by decide) (by decide) kt_) ?_
      refine own_by (T' := s₁) (g' := (mkF m 29 #[.val (.long sx), .second] [(.long (9131138316486228049 : Int64))])) (fun _ kt_ => X0.ldc2Long hx hown (mvT hZ (hw _ (List.mem_of_getElem? (i := 32) rfl))) (g := (mkF m 26 #[.val (.long sx), .second] [])) rfl (hb hby own_d5_26) _ kt_) ?_
      have hr5 : (9131138316486228049 : Int64) = (refF sx) := by simp [refF, hc1, hc3]
      obtain ⟨fs6, hr6, hrun6, hended6, hW6, hsame6⟩ := X0.leave (v := some (.long (9131138316486228049 : Int64))) (fun h => by rw [Bd.returns] at h; cases h)
      refine ⟨_, _, retOut X0 hx (t := .long) Bd.returns rfl (Or.inr (Or.inl ⟨rfl, rfl, _, rfl⟩)) (hb hby own_d5_29) hr6, hrun6, hended6, _, _, rfl, ?_, ⟨_, rfl⟩, hW6, hsame6.mono (by decide) (by decide)⟩
      show Q_rmR Z wM sx h0 n0 _ s₁.heap _
      exact ⟨(congrArg (fun z => some (Value.long z)) hr5), N0, e0⟩
    · refine own_by (T' := s₁) (g' := (mkF m 18 #[.val (.long sx), .second] [])) (fun _ kt_ => XS.ifNo X0.here hx rfl (hb hby own_d5_15) rfl (XT.ll_gt_f hc3) kt_) ?_
      refine own_by (T' := s₁) (g' := (mkF m 19 #[.val (.long sx), .second] [(.long sx)])) (fun _ kt_ => XS.lloadN X0.here hx rfl (hb hby own_d5_18) rfl kt_) ?_
      refine own_by (T' := s₁) (g' := (mkF m 20 #[.val (.long sx), .second] [(.long (1 : Int64)), (.long sx)])) (fun _ kt_ => XS.lconst X0.here hx rfl (hb hby own_d5_19) kt_) ?_
      refine own_by (T' := s₁) (g' := (mkF m 21 #[.val (.long sx), .second] [(.long (sx - (1 : Int64)))])) (fun _ kt_ => XS.lsub X0.here hx rfl (hb hby own_d5_20) rfl kt_) ?_
      refine own_by (T' := s₁) (g' := (mkF m 24 #[.val (.long sx), .second] [(.long (990000 : Int64)), (.long (sx - (1 : Int64)))])) (fun _ kt_ => X0.ldc2Long hx hown (mvT hZ (hw _ (List.mem_of_getElem? (i := 35) rfl))) (g := (mkF m 21 #[.val (.long sx), .second] [(.long (sx - (1 : Int64)))])) rfl (hb hby own_d5_21) _ kt_) ?_
      refine own_by (T' := s₁) (g' := (mkF m 25 #[.val (.long sx), .second] [(.long ((sx - (1 : Int64)) * (990000 : Int64)))])) (fun _ kt_ => XS.lmul X0.here hx rfl (hb hby own_d5_24) rfl kt_) ?_
      have hr8 : ((sx - (1 : Int64)) * (990000 : Int64)) = (refF sx) := by simp [refF, hc1, hc3]
      obtain ⟨fs9, hr9, hrun9, hended9, hW9, hsame9⟩ := X0.leave (v := some (.long ((sx - (1 : Int64)) * (990000 : Int64)))) (fun h => by rw [Bd.returns] at h; cases h)
      refine ⟨_, _, retOut X0 hx (t := .long) Bd.returns rfl (Or.inr (Or.inl ⟨rfl, rfl, _, rfl⟩)) (hb hby own_d5_25) hr9, hrun9, hended9, _, _, rfl, ?_, ⟨_, rfl⟩, hW9, hsame9.mono (by decide) (by decide)⟩
      show Q_rmR Z wM sx h0 n0 _ s₁.heap _
      exact ⟨(congrArg (fun z => some (Value.long z)) hr8), N0, e0⟩
  · refine own_by (T' := s₁) (g' := (mkF m 6 #[.val (.long sx), .second] [])) (fun _ kt_ => XS.ifNo X0.here hx rfl (hb hby own_d5_3) rfl (XT.ll_gt_f hc1) kt_) ?_
    refine own_by (T' := s₁) (g' := (mkF m 7 #[.val (.long sx), .second] [(.long (0 : Int64))])) (fun _ kt_ => XS.lconst X0.here hx rfl (hb hby own_d5_6) kt_) ?_
    have hr10 : (0 : Int64) = (refF sx) := by simp [refF, hc1]
    obtain ⟨fs11, hr11, hrun11, hended11, hW11, hsame11⟩ := X0.leave (v := some (.long (0 : Int64))) (fun h => by rw [Bd.returns] at h; cases h)
    refine ⟨_, _, retOut X0 hx (t := .long) Bd.returns rfl (Or.inr (Or.inl ⟨rfl, rfl, _, rfl⟩)) (hb hby own_d5_7) hr11, hrun11, hended11, _, _, rfl, ?_, ⟨_, rfl⟩, hW11, hsame11.mono (by decide) (by decide)⟩
    show Q_rmR Z wM sx h0 n0 _ s₁.heap _
    exact ⟨(congrArg (fun z => some (Value.long z)) hr10), N0, e0⟩
theorem own_pd_2 : parseMethodDescriptor "(JI)J" = some ⟨[.long, .int], some .long⟩ := by decide +kernel
theorem own_ef_rm0 (m : MethodId) (x0 : Int64) (x1 : Int32) : entryFrame m #[(.long x0), (.int x1)] maxLocals = mkF m 0 #[.val (.long x0), .second, .val (.int x1), .unset, .unset, .unset, .unset] [] := by first | (simp [entryFrame, mkF, argsToLocals, Value.category, maxLocals]; done) | rfl
def Q_rm0 (Z : State) (wM : Addr) (x0 : Int64) (pk : Int32) (h0 : Heap) (n0 : Nat) (vv_ : Option Value) (hh_ : Heap) (LL_ : List Loc) : Prop := vv_ = some (.int (1 : Int32)) ∧ Fr n0 LL_
set_option maxRecDepth 65536 in
set_option maxHeartbeats 40000000 in
theorem rm0 (l : Launch) (Z : State) (a0 : Array Value) (hw : ∀ d ∈ tables_1, d.before a0 Z = true) (ws : List Jvm.Cond) (wM : Addr) (GS : Glob Z wM) (x0 : Int64) (pk : Int32) (h0 : Heap) (n0 : Nat) (Z0 : n0 ≤ h0.size) (O0 : Old Z n0 h0) :
    MetFree l x (head1 (Jvm.Cond.code x code maxLocals ret :: ws) room_1) (fun aa_ UU_ => aa_ = #[(.long x0), (.int pk)] ∧ Z.Warmed39 UU_.vm ∧ UU_.heap = h0) (fun _ _ _ _ _ => True) (fun _ UU_ oo_ UV_ => ∃ vv_ LL_, oo_ = .returned vv_ ∧ Q_rm0 Z wM x0 pk h0 n0 vv_ UV_.heap LL_ ∧ FrameEnd UU_ oo_ UV_ LL_ 0 0) := by
  refine MetFree.of_bodySF (plainFor_of_name own_pn_com_example_leasy_leasy_LeaseLengthTrustedElapsedNanosPinLaw) hisR ?_
  intro p e s m args below meth c s₁ Bd hml0 hP hK
  obtain ⟨rfl, hZ, hh⟩ := hP
  have hx := Bd.exec
  have hby := Bd.bytes
  have hml : c.maxLocals = 7 := hml0
  have hown : s.vm.findClass "com/example/leasy/leasy/LeaseLengthTrustedElapsedNanosPinLaw" = some m.cls := findClass_of_methodNamed Bd.named
  have hnm := (name_of_methodNamed Bd.named Bd.method).1
  have X0 : Stand p l e room_1 s m #[(.long x0), (.int pk)] below meth c s₁ [] 0 0 := Stand.of_body Bd
  have e0 : s₁.heap = h0 := by rw [← hh, Bd.state]; rfl
  have N0 := Fr.nil n0
  have hn0 : Z.heap.size = n0 := O0.1
  have KT0 : Keep h0 h0 [] := Keep.refl _ _
  refine own_enter (Φ := fun oo_ UV_ => ∃ vv_ LL_, oo_ = .returned vv_ ∧ Q_rm0 Z wM x0 pk h0 n0 vv_ UV_.heap LL_ ∧ FrameEnd s oo_ UV_ LL_ 0 0) (own_ef_rm0 m x0 pk) ?_
  refine own_by (T' := s₁) (g' := (mkF m 1 #[.val (.long x0), .second, .val (.int pk), .unset, .unset, .unset, .unset] [(.long x0)])) (fun _ kt_ => XS.lloadN X0.here hx rfl (hb hby at_0) rfl kt_) ?_
  refine own_by (T' := s₁) (g' := (mkF m 2 #[.val (.long x0), .second, .val (.int pk), .unset, .unset, .unset, .unset] [(.int pk), (.long x0)])) (fun _ kt_ => XS.iloadN X0.here hx rfl (hb hby at_1) rfl kt_) ?_
  obtain ⟨_, _, ⟨T1, L1, k1, n1⟩, -, X1, ⟨Lc1, hQ1, l1, y1, z1⟩, st1⟩ := Jvm.LawKit.callS X0 hx (y := (⟨"com/example/leasy/leasy/LeaseLengthTrustedElapsedNanosPinLaw", "pickInput", "(JI)J"⟩ : MethodName)) hown (mvT hZ (hw _ (List.mem_of_getElem? (i := 0) rfl))) (mvT hZ (hw _ (List.mem_of_getElem? (i := 1) rfl))) (mvT hZ (hw _ (List.mem_of_getElem? (i := 2) rfl))) (mvT hZ (hw _ (List.mem_of_getElem? (i := 3) rfl))) (by decide) (backOf (W := 0) (rmP l Z a0 hw [] wM GS x0 pk h0 n0 (by omega) O0 ) hZ (hw _ (List.mem_of_getElem? (i := 3) rfl)) (hw _ (List.mem_of_getElem? (i := 2) rfl)) (by decide) (by decide)) (g := (mkF m 2 #[.val (.long x0), .second, .val (.int pk), .unset, .unset, .unset, .unset] [(.int pk), (.long x0)])) rfl (by rw [hml]; rfl) (argsL := [(.long x0), (.int pk)]) (rest := []) (lenOf own_pd_2 rfl) rfl (by show 2 * 0 + _ ≤ _; exact Nat.le_of_eq rfl) (hb hby at_2) (fun _ _ => ⟨rfl, e0, (by decide : 0 + 0 ≤ _), (by decide : 0 + 0 ≤ _)⟩)
  dsimp only [Pt.U, Pt.locs, Pt.cells, Pt.slots] at X1 l1 y1 z1 st1 hQ1
  subst l1 y1 z1
  obtain ⟨r_2, rfl, N1q, e1⟩ := hQ1
  have N3 := Fr.app N0 N1q
  refine own_by (T' := T1) (g' := (mkF m 5 #[.val (.long x0), .second, .val (.int pk), .unset, .unset, .unset, .unset] [(.long r_2)])) st1 ?_
  refine own_by (T' := T1) (g' := (mkF m 6 #[.val (.long x0), .second, .val (.int pk), .val (.long r_2), .second, .unset, .unset] [])) (fun _ kt_ => XS.lstoreN X1.here hx rfl (hb hby at_5) rfl (l' := #[.val (.long x0), .second, .val (.int pk), .val (.long r_2), .second, .unset, .unset]) rfl kt_) ?_
  refine own_by (T' := T1) (g' := (mkF m 7 #[.val (.long x0), .second, .val (.int pk), .val (.long r_2), .second, .unset, .unset] [(.long r_2)])) (fun _ kt_ => XS.lloadN X1.here hx rfl (hb hby at_6) rfl kt_) ?_
  refine own_by (T' := T1) (g' := (mkF m 10 #[.val (.long x0), .second, .val (.int pk), .val (.long r_2), .second, .unset, .unset] [(.long (-9223372036854775808 : Int64)), (.long r_2)])) (fun _ kt_ => X1.ldc2Long hx hown (mvT hZ (hw _ (List.mem_of_getElem? (i := 6) rfl))) (g := (mkF m 7 #[.val (.long x0), .second, .val (.int pk), .val (.long r_2), .second, .unset, .unset] [(.long r_2)])) rfl (hb hby at_7) _ kt_) ?_
  refine own_by (T' := T1) (g' := (mkF m 11 #[.val (.long x0), .second, .val (.int pk), .val (.long r_2), .second, .unset, .unset] [(.int (XT.cmpL r_2 (-9223372036854775808 : Int64)))])) (fun _ kt_ => XT.lcmp X1.here hx rfl (hb hby at_10) rfl kt_) ?_
  by_cases hc5 : r_2 = (-9223372036854775808 : Int64)
  · refine own_by (T' := T1) (g' := (mkF m 14 #[.val (.long x0), .second, .val (.int pk), .val (.long r_2), .second, .unset, .unset] [])) (fun _ kt_ => XS.ifNo X1.here hx rfl (hb hby at_11) rfl (XT.ll_ne_f hc5) kt_) ?_
    refine own_by (T' := T1) (g' := (mkF m 15 #[.val (.long x0), .second, .val (.int pk), .val (.long r_2), .second, .unset, .unset] [(.int (1 : Int32))])) (fun _ kt_ => XS.iconst X1.here hx rfl (hb hby at_14) kt_) ?_
    have hn6 : nar .boolean (1 : Int32) = (1 : Int32) := rfl
    obtain ⟨fs7, hr7, hrun7, hended7, hW7, hsame7⟩ := X1.leave (v := some (.int (nar .boolean (1 : Int32)))) (fun h => by rw [Bd.returns] at h; cases h)
    refine ⟨_, _, retN X1 hx (t := .boolean) Bd.returns (by simp) (hb hby at_15) hr7, hrun7, hended7, _, _, rfl, ?_, ⟨_, rfl⟩, hW7, hsame7.mono (by decide) (by decide)⟩
    show Q_rm0 Z wM x0 pk h0 n0 _ T1.heap _
    exact ⟨(congrArg (fun z => some (Value.int z)) hn6), N3⟩
  · refine own_by (T' := T1) (g' := (mkF m 16 #[.val (.long x0), .second, .val (.int pk), .val (.long r_2), .second, .unset, .unset] [])) (fun _ kt_ => XS.ifYes X1.here hx rfl (pc0 := 11) (pc' := 16) rfl (hb hby at_11) rfl (XT.ll_ne_t hc5) (by decide) (by decide) kt_) ?_
    refine own_by (T' := T1) (g' := (mkF m 17 #[.val (.long x0), .second, .val (.int pk), .val (.long r_2), .second, .unset, .unset] [(.long r_2)])) (fun _ kt_ => XS.lloadN X1.here hx rfl (hb hby at_16) rfl kt_) ?_
    obtain ⟨_, _, ⟨T8, L8, k8, n8⟩, -, X8, ⟨Lc8, hQ8, l8, y8, z8⟩, st8⟩ := Jvm.LawKit.callS X1 hx (y := (⟨"com/example/leasy/leasy/LeaseLength", "trustedElapsedNanos", "(J)J"⟩ : MethodName)) hown (mvT hZ (hw _ (List.mem_of_getElem? (i := 7) rfl))) (mvT hZ (hw _ (List.mem_of_getElem? (i := 8) rfl))) (mvT hZ (hw _ (List.mem_of_getElem? (i := 9) rfl))) (mvT hZ (hw _ (List.mem_of_getElem? (i := 10) rfl))) (by decide) (backOf (W := 0) (rmT l Z a0 hw [] wM GS r_2 h0 n0 (by omega) O0 ) hZ (hw _ (List.mem_of_getElem? (i := 10) rfl)) (hw _ (List.mem_of_getElem? (i := 9) rfl)) (by decide) (by decide)) (g := (mkF m 17 #[.val (.long x0), .second, .val (.int pk), .val (.long r_2), .second, .unset, .unset] [(.long r_2)])) rfl (by rw [hml]; rfl) (argsL := [(.long r_2)]) (rest := []) (lenOf own_pd_1 rfl) rfl (by show 2 * 0 + _ ≤ _; exact Nat.le_of_eq rfl) (hb hby at_17) (fun _ _ => ⟨rfl, e1, (by decide : 0 + 0 ≤ _), (by decide : 0 + 0 ≤ _)⟩)
    dsimp only [Pt.U, Pt.locs, Pt.cells, Pt.slots] at X8 l8 y8 z8 st8 hQ8
    subst l8 y8 z8
    obtain ⟨rfl, N8q, e8⟩ := hQ8
    have N9 := Fr.app N3 N8q
    refine own_by (T' := T8) (g' := (mkF m 20 #[.val (.long x0), .second, .val (.int pk), .val (.long r_2), .second, .unset, .unset] [(.long (trustF r_2))])) st8 ?_
    refine own_by (T' := T8) (g' := (mkF m 22 #[.val (.long x0), .second, .val (.int pk), .val (.long r_2), .second, .val (.long (trustF r_2)), .second] [])) (fun _ kt_ => XS.lstore X8.here hx rfl (hb hby at_20) rfl (l' := #[.val (.long x0), .second, .val (.int pk), .val (.long r_2), .second, .val (.long (trustF r_2)), .second]) rfl kt_) ?_
    refine own_by (T' := T8) (g' := (mkF m 24 #[.val (.long x0), .second, .val (.int pk), .val (.long r_2), .second, .val (.long (trustF r_2)), .second] [(.long (trustF r_2))])) (fun _ kt_ => XS.lload X8.here hx rfl (hb hby at_22) rfl kt_) ?_
    refine own_by (T' := T8) (g' := (mkF m 25 #[.val (.long x0), .second, .val (.int pk), .val (.long r_2), .second, .val (.long (trustF r_2)), .second] [(.long r_2), (.long (trustF r_2))])) (fun _ kt_ => XS.lloadN X8.here hx rfl (hb hby at_24) rfl kt_) ?_
    obtain ⟨_, _, ⟨T10, L10, k10, n10⟩, -, X10, ⟨Lc10, hQ10, l10, y10, z10⟩, st10⟩ := Jvm.LawKit.callS X8 hx (y := (⟨"com/example/leasy/leasy/LeaseLengthTrustedElapsedNanosPinLaw", "reference", "(J)J"⟩ : MethodName)) hown (mvT hZ (hw _ (List.mem_of_getElem? (i := 28) rfl))) (mvT hZ (hw _ (List.mem_of_getElem? (i := 29) rfl))) (mvT hZ (hw _ (List.mem_of_getElem? (i := 2) rfl))) (mvT hZ (hw _ (List.mem_of_getElem? (i := 30) rfl))) (by decide) (backOf (W := 2) (rmR l Z a0 hw [] wM GS r_2 h0 n0 (by omega) O0 ) hZ (hw _ (List.mem_of_getElem? (i := 30) rfl)) (hw _ (List.mem_of_getElem? (i := 2) rfl)) (by decide) (by decide)) (g := (mkF m 25 #[.val (.long x0), .second, .val (.int pk), .val (.long r_2), .second, .val (.long (trustF r_2)), .second] [(.long r_2), (.long (trustF r_2))])) rfl (by rw [hml]; rfl) (argsL := [(.long r_2)]) (rest := [(.long (trustF r_2))]) (lenOf own_pd_1 rfl) rfl (by show 2 * 0 + _ ≤ _; exact Nat.le_of_eq rfl) (hb hby at_25) (fun _ _ => ⟨rfl, e8, (by decide : 0 + 0 ≤ _), (by decide : 0 + 0 ≤ _)⟩)
    dsimp only [Pt.U, Pt.locs, Pt.cells, Pt.slots] at X10 l10 y10 z10 st10 hQ10
    subst l10 y10 z10
    obtain ⟨rfl, N10q, e10⟩ := hQ10
    have N11 := Fr.app N9 N10q
    refine own_by (T' := T10) (g' := (mkF m 28 #[.val (.long x0), .second, .val (.int pk), .val (.long r_2), .second, .val (.long (trustF r_2)), .second] [(.long (refF r_2)), (.long (trustF r_2))])) st10 ?_
    refine own_by (T' := T10) (g' := (mkF m 29 #[.val (.long x0), .second, .val (.int pk), .val (.long r_2), .second, .val (.long (trustF r_2)), .second] [(.int (XT.cmpL (trustF r_2) (refF r_2)))])) (fun _ kt_ => XT.lcmp X10.here hx rfl (hb hby at_28) rfl kt_) ?_
    refine own_by (T' := T10) (g' := (mkF m 32 #[.val (.long x0), .second, .val (.int pk), .val (.long r_2), .second, .val (.long (trustF r_2)), .second] [])) (fun _ kt_ => XS.ifNo X10.here hx rfl (hb hby at_29) rfl (XT.ll_ne_f (own_main _ hc5).1) kt_) ?_
    refine own_by (T' := T10) (g' := (mkF m 34 #[.val (.long x0), .second, .val (.int pk), .val (.long r_2), .second, .val (.long (trustF r_2)), .second] [(.long (trustF r_2))])) (fun _ kt_ => XS.lload X10.here hx rfl (hb hby at_32) rfl kt_) ?_
    refine own_by (T' := T10) (g' := (mkF m 35 #[.val (.long x0), .second, .val (.int pk), .val (.long r_2), .second, .val (.long (trustF r_2)), .second] [(.long (0 : Int64)), (.long (trustF r_2))])) (fun _ kt_ => XS.lconst X10.here hx rfl (hb hby at_34) kt_) ?_
    refine own_by (T' := T10) (g' := (mkF m 36 #[.val (.long x0), .second, .val (.int pk), .val (.long r_2), .second, .val (.long (trustF r_2)), .second] [(.int (XT.cmpL (trustF r_2) (0 : Int64)))])) (fun _ kt_ => XT.lcmp X10.here hx rfl (hb hby at_35) rfl kt_) ?_
    refine own_by (T' := T10) (g' := (mkF m 39 #[.val (.long x0), .second, .val (.int pk), .val (.long r_2), .second, .val (.long (trustF r_2)), .second] [])) (fun _ kt_ => XS.ifNo X10.here hx rfl (hb hby at_36) rfl (XT.ll_lt_f (own_main _ hc5).2) kt_) ?_
    refine own_by (T' := T10) (g' := (mkF m 40 #[.val (.long x0), .second, .val (.int pk), .val (.long r_2), .second, .val (.long (trustF r_2)), .second] [(.int (1 : Int32))])) (fun _ kt_ => XS.iconst X10.here hx rfl (hb hby at_39) kt_) ?_
    refine own_by (T' := T10) (g' := (mkF m 44 #[.val (.long x0), .second, .val (.int pk), .val (.long r_2), .second, .val (.long (trustF r_2)), .second] [(.int (1 : Int32))])) (fun _ kt_ => XS.goto X10.here hx rfl (pc0 := 40) (pc' := 44) rfl (hb hby at_40) (by decide) (by decide) kt_) ?_
    have hn12 : nar .boolean (1 : Int32) = (1 : Int32) := rfl
    obtain ⟨fs13, hr13, hrun13, hended13, hW13, hsame13⟩ := X10.leave (v := some (.int (nar .boolean (1 : Int32)))) (fun h => by rw [Bd.returns] at h; cases h)
    refine ⟨_, _, retN X10 hx (t := .boolean) Bd.returns (by simp) (hb hby at_44) hr13, hrun13, hended13, _, _, rfl, ?_, ⟨_, rfl⟩, hW13, hsame13.mono (by decide) (by decide)⟩
    show Q_rm0 Z wM x0 pk h0 n0 _ T10.heap _
    exact ⟨(congrArg (fun z => some (Value.int z)) hn12), N11⟩
set_option maxRecDepth 65536 in
set_option maxHeartbeats 40000000 in
theorem comes_1 {Post : Tables → Env → Array Value → State → Outcome → State → Prop} (hpost : ∀ tb e args s v u, (limb_1_1.after args s (.returned v) u = true ∧ limb_1_2.after args s (.returned v) u = true ∧ True) → FrameEnd s (.returned v) u (Jvm.fieldLocs frame_1_writes args s ++ Jvm.arrayLocs frame_1_arrays args s ++ Jvm.staticLocs frame_1_statics s) 0 0 → Post tb e args s (.returned v) u) :
    ArmFor flags0 classFile x code maxLocals ret World_1 tables_1 room_1 Calls_1 rest_1 Pre_1 Post := by
  intro l hfl _ _ p e ha hc hk s m args below hf hA hF happ hP
  obtain ⟨hcalls, hrest, hpre⟩ := hP
  obtain ⟨-, -, -, hnamed, -, -, -, hat⟩ := (Spec.applies_iff hf).mp happ
  obtain ⟨hg, hn⟩ := and_e (Cond.before_iff.mp (show (Jvm.Cond.and given_1 narrow_1).before args s = true from hpre))
  obtain ⟨g1a, g1b⟩ := and_e hg
  obtain ⟨g2a, g2b⟩ := and_e g1b
  obtain ⟨w0, w1, rfl⟩ : ∃ w0 w1 : Value, args = #[w0, w1] := by
    have hs : args.size = 2 := by simpa [Cond.value, given_1] using g1a
    obtain ⟨L⟩ := args
    match L, hs with
    | [w0, w1], _ => exact ⟨w0, w1, rfl⟩
  have hw := fun d (hd : d ∈ tables_1) => atoms_spec (ws := Jvm.Cond.code x code maxLocals ret :: tables_1) hat d (List.mem_cons_of_mem _ hd)
  have hfit : Fit s := fun {y c} hc i hi => by
    obtain ⟨ha, rfl⟩ := Array.getElem?_eq_some_iff.mp hc
    have q := List.all_eq_true.mp ((Array.all_eq_true_iff_forall_mem.mp hF) _ (Array.getElem_mem ha)) i (List.mem_range.mpr hi)
    simpa [Array.getElem?_eq_getElem hi] using q
  obtain ⟨i0, ei0⟩ := isL_v g2a
  obtain rfl : w0 = (.long i0) := Option.some.inj ei0
  obtain ⟨i1, ei1⟩ := is_v g2b
  obtain rfl : w1 = (.int i1) := Option.some.inj ei1
  obtain ⟨hsets, hown0⟩ := atoms_of _ (rest_1_c_eq ▸ (show rest_1_c.before _ s = true from hrest))
  obtain ⟨wM, ev_wM⟩ := exa_v (Cond.before_iff.mp (hsets _ (List.mem_of_getElem? (i := 2) rfl)))
  have sta_wM := Sta.start ev_wM (Or.inl (Cond.before_iff.mpr (Cond.before_iff.mp (hsets _ (List.mem_of_getElem? (i := 1) rfl)))))
  have exa_wM := Exa.start ev_wM (Cond.before_iff.mp (hsets _ (List.mem_of_getElem? (i := 2) rfl)))
  have fld_wM_ordinal := own_fldI ev_wM (Cond.before_iff.mp (hsets _ (List.mem_of_getElem? (i := 4) rfl)))
  have fld_wM_scale := own_fldJ ev_wM (Cond.before_iff.mp (hsets _ (List.mem_of_getElem? (i := 5) rfl)))
  have fld_wM_maxNanos := own_fldJ ev_wM (Cond.before_iff.mp (hsets _ (List.mem_of_getElem? (i := 6) rfl)))
  have GS : Glob s wM := ⟨sta_wM, exa_wM, fld_wM_ordinal, fld_wM_scale, fld_wM_maxNanos⟩
  obtain ⟨n, o, h1, h2, h3, _, L, rfl, ⟨rfl, N⟩, hq⟩ := rm0 l s _ hw tables_1 wM GS i0 i1 s.heap s.heap.size (Nat.le_refl _) (Old.start s) p e ha hc hk s m _ below hf ((Spec.applies_iff_loose hf).mp happ).1 ⟨rfl, State.Warmed39.refl s, rfl⟩ trivial
  refine ⟨n, _, h1, h2, h3, hpost _ _ _ _ _ _ ⟨Cond.after_iff.mpr rfl, Cond.after_iff.mpr (eq_i res_at (Term.int_eval (1)) rfl), trivial⟩ ⟨hq.1, hq.2.1, (hq.2.2.sift fun y hy => Or.inr (N y hy)).mono (by decide) (by decide)⟩⟩
theorem main_1_1 : Claimed_1_1 := comes_1 fun _ _ _ _ _ _ h hF => ⟨h.1, hF⟩
theorem main_1_2 : Claimed_1_2 := comes_1 fun _ _ _ _ _ _ h hF => ⟨h.2.1, hF⟩
end Jvm.Pilot.@@N@@
namespace Jvm.Pilot.@@N@@
open Jvm Jvm.ClassFile Sem Op Lib Jvm.Free Jvm.Stand Jvm.Pilot.@@N@@.Jvm.D
/-! MADE BY PROGRAM (witnessworld.py) out of the Statement's table words and the real class files: 17 classes; the members and pool entries that the words name. The judged class is class 1, her method 3. -/
namespace start1
open Jvm.ClassFile
def u (s : String) : CpInfo := .utf8 (stringToUtf16 s)
/-- a pool by its gaps: so many unusable entries, then the entry; so many at the end -/
def gap : Nat → List CpInfo → List CpInfo
  | 0, r => r
  | n + 1, r => .unusable :: gap n r
def poolList (es : List (Nat × CpInfo)) (last : Nat) : List CpInfo := es.foldr (fun e r => gap e.1 (e.2 :: r)) (gap last [])
def pool (es : List (Nat × CpInfo)) (last : Nat) : Array CpInfo := ⟨poolList es last⟩
def fileOf (pool : Array CpInfo) (this : Nat) (attrs : Array Attribute := #[]) (ms : Array MethodInfo := #[]) (fl : Nat := 33) (sup : Nat := 0) (ifs : Array Nat := #[]) (fds : Array FieldInfo := #[]) : ClassFile where
  minorVersion := 0
  majorVersion := 65
  constantPool := pool
  accessFlags := fl
  thisClass := this
  superClass := sup
  interfaces := ifs
  fields := fds
  methods := ms
  attributes := attrs
def plain (name : String) (sup : Option ClassId) : Class where
  name := name
  kind := .ordinary
  loader := none
  accessFlags := 33
  super := sup
  interfaces := #[]
  cf := none
  fields := #[]
  methods := #[]
  instanceTypes := #[]
  staticTypes := #[]
  resolved := #[]
  callSites := []
  init := .initialized
  statics := none
  mirror := none

def pool0 : Array CpInfo := pool [(5, u "<init>"), (0, u "()V"), (1, .class_ 10), (1, u "java/lang/Object")] 113

def k0m0 : Method := { name := "<init>", desc := "()V", sig := { parameters := [], returnType := none }, accessFlags := 1, code := none }
/-- java/lang/Object -/
def k0 : Class := { plain "java/lang/Object" none with
  accessFlags := 33
  interfaces := #[]
  cf := some (fileOf pool0 8 #[] #[{ accessFlags := 1, nameIndex := 5, descriptorIndex := 6, attributes := #[] }] 33 0 #[] #[])
  fields := #[]
  methods := #[k0m0]
  instanceTypes := #[]
  staticTypes := #[]
  resolved := Array.replicate 124 none
  statics := none }

def pool1 : Array CpInfo := pool [(2, .class_ 4), (1, u "java/lang/Object"), (0, u "<init>"), (0, u "()V"), (0, .long 8), (1, .long 9223372036855), (3, .long 9223372036854775807), (1, .long 7), (1, .long 9223372036854775809), (1, .class_ 20), (0, u "com/example/leasy/leasy/LeaseLengthTrustedElapsedNanosPinLaw"), (0, .long 9223372036854), (1, .long 990000), (1, .long 9131138316486228049), (1, .methodref 19 28), (0, .nameAndType 29 30), (0, u "pickInput"), (0, u "(JI)J"), (0, .long 9223372036854775808), (1, .methodref 34 35), (0, .class_ 36), (0, .nameAndType 37 38), (0, u "com/example/leasy/leasy/LeaseLength"), (0, u "trustedElapsedNanos"), (0, u "(J)J"), (0, .methodref 19 40), (0, .nameAndType 41 38), (0, u "reference"), (0, u "SAT"), (0, u "J"), (1, u "LIMIT_MS"), (3, u "law"), (0, u "(JI)Z")] 2

def k1m0 : Method := { name := "<init>", desc := "()V", sig := { parameters := [], returnType := none }, accessFlags := 2, code := none }
def k1c1 : Code := { maxStack := 6, maxLocals := 4, code := method_2_code, exceptionTable := #[], attributes := #[] }
def k1m1 : Method := { name := "pickInput", desc := "(JI)J", sig := { parameters := [.long, .int], returnType := some .long }, accessFlags := 10, code := some k1c1 }
def k1c2 : Code := { maxStack := 4, maxLocals := 2, code := method_3_code, exceptionTable := #[], attributes := #[] }
def k1m2 : Method := { name := "reference", desc := "(J)J", sig := { parameters := [.long], returnType := some .long }, accessFlags := 10, code := some k1c2 }
def k1c3 : Code := { maxStack := 4, maxLocals := 7, code := code, exceptionTable := #[], attributes := #[] }
def k1m3 : Method := { name := "law", desc := "(JI)Z", sig := { parameters := [.long, .int], returnType := some .boolean }, accessFlags := 9, code := some k1c3 }
/-- com/example/leasy/leasy/LeaseLengthTrustedElapsedNanosPinLaw -/
def k1 : Class := { plain "com/example/leasy/leasy/LeaseLengthTrustedElapsedNanosPinLaw" (some 0) with
  accessFlags := 49
  interfaces := #[]
  cf := some (fileOf pool1 19 #[] #[{ accessFlags := 2, nameIndex := 5, descriptorIndex := 6, attributes := #[] }, { accessFlags := 10, nameIndex := 29, descriptorIndex := 30, attributes := #[] }, { accessFlags := 10, nameIndex := 41, descriptorIndex := 38, attributes := #[] }, { accessFlags := 9, nameIndex := 49, descriptorIndex := 50, attributes := #[] }] 49 2 #[] #[{ accessFlags := 26, nameIndex := 42, descriptorIndex := 43, attributes := #[] }, { accessFlags := 26, nameIndex := 45, descriptorIndex := 43, attributes := #[] }])
  fields := #[{ name := "SAT", type := .long, accessFlags := 26, slot := 0, constantValue := 0 }, { name := "LIMIT_MS", type := .long, accessFlags := 26, slot := 1, constantValue := 0 }]
  methods := #[k1m0, k1m1, k1m2, k1m3]
  instanceTypes := #[]
  staticTypes := #[.long, .long]
  resolved := Array.replicate 53 none
  statics := none }

def pool2 : Array CpInfo := pool [(2, .class_ 4), (1, u "java/lang/Object"), (0, u "<init>"), (0, u "()V"), (0, .fieldref 8 9), (0, .class_ 10), (0, .nameAndType 11 12), (0, u "java/util/concurrent/TimeUnit"), (0, u "MILLISECONDS"), (0, u "Ljava/util/concurrent/TimeUnit;"), (0, .methodref 8 14), (0, .nameAndType 15 16), (0, u "toNanos"), (0, u "(J)J"), (0, .class_ 18), (0, u "com/example/leasy/leasy/LeaseLength"), (0, .long 100), (3, u "LEAST_DRIFT"), (0, u "Ljava/time/Duration;"), (5, .methodref 31 32), (0, .class_ 33), (0, .nameAndType 34 35), (0, u "java/lang/Math"), (0, u "max"), (0, u "(JJ)J"), (10, u "SHORTEST"), (6, u "LONGEST"), (28, u "LEASE_PER_DRIFT"), (0, u "I"), (5, u "trustedElapsedNanos")] 21

def k2m0 : Method := { name := "<init>", desc := "()V", sig := { parameters := [], returnType := none }, accessFlags := 2, code := none }
def k2c1 : Code := { maxStack := 6, maxLocals := 4, code := prog_2_method_3_code, exceptionTable := #[], attributes := #[] }
def k2m1 : Method := { name := "trustedElapsedNanos", desc := "(J)J", sig := { parameters := [.long], returnType := some .long }, accessFlags := 8, code := some k2c1 }
/-- com/example/leasy/leasy/LeaseLength -/
def k2 : Class := { plain "com/example/leasy/leasy/LeaseLength" (some 0) with
  accessFlags := 32
  interfaces := #[]
  cf := some (fileOf pool2 17 #[] #[{ accessFlags := 2, nameIndex := 5, descriptorIndex := 6, attributes := #[] }, { accessFlags := 8, nameIndex := 89, descriptorIndex := 16, attributes := #[] }] 32 2 #[] #[{ accessFlags := 26, nameIndex := 46, descriptorIndex := 24, attributes := #[] }, { accessFlags := 26, nameIndex := 53, descriptorIndex := 24, attributes := #[] }, { accessFlags := 26, nameIndex := 23, descriptorIndex := 24, attributes := #[] }, { accessFlags := 26, nameIndex := 82, descriptorIndex := 83, attributes := #[] }])
  fields := #[{ name := "SHORTEST", type := (.object "java/time/Duration"), accessFlags := 26, slot := 0, constantValue := 0 }, { name := "LONGEST", type := (.object "java/time/Duration"), accessFlags := 26, slot := 1, constantValue := 0 }, { name := "LEAST_DRIFT", type := (.object "java/time/Duration"), accessFlags := 26, slot := 2, constantValue := 0 }, { name := "LEASE_PER_DRIFT", type := .int, accessFlags := 26, slot := 3, constantValue := 0 }]
  methods := #[k2m0, k2m1]
  instanceTypes := #[]
  staticTypes := #[(.object "java/time/Duration"), (.object "java/time/Duration"), (.object "java/time/Duration"), .int]
  resolved := Array.replicate 111 none
  statics := none }

def pool3 : Array CpInfo := pool [(1, .class_ 2), (0, u "java/lang/constant/Constable"), (0, .class_ 4), (0, u "java/lang/Object")] 6

/-- java/lang/constant/Constable -/
def k3 : Class := { plain "java/lang/constant/Constable" (some 0) with
  accessFlags := 1537
  interfaces := #[]
  cf := some (fileOf pool3 1 #[] #[] 1537 3 #[] #[])
  fields := #[]
  methods := #[]
  instanceTypes := #[]
  staticTypes := #[]
  resolved := Array.replicate 11 none
  statics := none }

def pool4 : Array CpInfo := pool [(1, .class_ 2), (0, u "java/lang/Comparable"), (0, .class_ 4), (0, u "java/lang/Object")] 7

/-- java/lang/Comparable -/
def k4 : Class := { plain "java/lang/Comparable" (some 0) with
  accessFlags := 1537
  interfaces := #[]
  cf := some (fileOf pool4 1 #[] #[] 1537 3 #[] #[])
  fields := #[]
  methods := #[]
  instanceTypes := #[]
  staticTypes := #[]
  resolved := Array.replicate 12 none
  statics := none }

def pool5 : Array CpInfo := pool [(1, .class_ 2), (0, u "java/io/Serializable"), (0, .class_ 4), (0, u "java/lang/Object")] 2

/-- java/io/Serializable -/
def k5 : Class := { plain "java/io/Serializable" (some 0) with
  accessFlags := 1537
  interfaces := #[]
  cf := some (fileOf pool5 1 #[] #[] 1537 3 #[] #[])
  fields := #[]
  methods := #[]
  instanceTypes := #[]
  staticTypes := #[]
  resolved := Array.replicate 7 none
  statics := none }

def pool6 : Array CpInfo := pool [(2, .class_ 4), (1, u "java/lang/Enum"), (0, u "name"), (0, u "Ljava/lang/String;"), (2, u "ordinal"), (0, u "I"), (1, .class_ 14), (1, u "java/lang/Object"), (4, u "hash"), (86, .class_ 108), (1, u "java/lang/Enum$EnumDesc"), (2, .class_ 112), (0, u "java/lang/constant/Constable"), (0, .class_ 114), (0, u "java/lang/Comparable"), (0, .class_ 116), (0, u "java/io/Serializable")] 87

/-- java/lang/Enum -/
def k6 : Class := { plain "java/lang/Enum" (some 0) with
  accessFlags := 1057
  interfaces := #[3, 4, 5]
  cf := some (fileOf pool6 2 #[.nestMembers #[106]] #[] 1057 12 #[111, 113, 115] #[{ accessFlags := 18, nameIndex := 5, descriptorIndex := 6, attributes := #[] }, { accessFlags := 18, nameIndex := 9, descriptorIndex := 10, attributes := #[] }, { accessFlags := 2, nameIndex := 19, descriptorIndex := 10, attributes := #[] }])
  fields := #[{ name := "name", type := (.object "java/lang/String"), accessFlags := 18, slot := 0, constantValue := 0 }, { name := "ordinal", type := .int, accessFlags := 18, slot := 1, constantValue := 0 }, { name := "hash", type := .int, accessFlags := 2, slot := 2, constantValue := 0 }]
  methods := #[]
  instanceTypes := #[(.object "java/lang/String"), .int, .int]
  staticTypes := #[]
  resolved := Array.replicate 204 none
  statics := none }

def pool7 : Array CpInfo := pool [(1, .class_ 2), (0, u "java/util/concurrent/TimeUnit"), (2, u "NANOSECONDS"), (0, u "Ljava/util/concurrent/TimeUnit;"), (2, u "MICROSECONDS"), (2, u "MILLISECONDS"), (2, u "SECONDS"), (2, u "MINUTES"), (2, u "HOURS"), (2, u "DAYS"), (2, u "$VALUES"), (0, u "[Ljava/util/concurrent/TimeUnit;"), (6, .class_ 37), (1, u "java/lang/Enum"), (6, .fieldref 1 45), (0, .nameAndType 46 47), (0, u "scale"), (0, u "J"), (2, .long 9223372036854775807), (1, .fieldref 1 53), (0, .nameAndType 54 47), (0, u "maxNanos"), (4, u "microRatio"), (2, u "maxMicros"), (4, u "milliRatio"), (0, u "I"), (2, u "maxMillis"), (4, u "secRatio"), (2, u "maxSecs"), (8, u "toNanos"), (0, u "(J)J"), (73, .class_ 165), (1, u "java/util/concurrent/TimeUnit$1"), (46, u "NANO_SCALE"), (3, u "MICRO_SCALE"), (0, u "MILLI_SCALE"), (0, u "SECOND_SCALE"), (0, u "MINUTE_SCALE"), (0, u "HOUR_SCALE"), (0, u "DAY_SCALE")] 61

def k7c0 : Code := { maxStack := 6, maxLocals := 7, code := jdk_2799_method_7_code, exceptionTable := #[], attributes := #[] }
def k7m0 : Method := { name := "toNanos", desc := "(J)J", sig := { parameters := [.long], returnType := some .long }, accessFlags := 1, code := some k7c0 }
/-- java/util/concurrent/TimeUnit -/
def k7 : Class := { plain "java/util/concurrent/TimeUnit" (some 6) with
  accessFlags := 16433
  interfaces := #[]
  cf := some (fileOf pool7 1 #[.nestMembers #[163]] #[{ accessFlags := 1, nameIndex := 88, descriptorIndex := 89, attributes := #[] }] 16433 35 #[] #[{ accessFlags := 16409, nameIndex := 5, descriptorIndex := 6, attributes := #[] }, { accessFlags := 16409, nameIndex := 9, descriptorIndex := 6, attributes := #[] }, { accessFlags := 16409, nameIndex := 12, descriptorIndex := 6, attributes := #[] }, { accessFlags := 16409, nameIndex := 15, descriptorIndex := 6, attributes := #[] }, { accessFlags := 16409, nameIndex := 18, descriptorIndex := 6, attributes := #[] }, { accessFlags := 16409, nameIndex := 21, descriptorIndex := 6, attributes := #[] }, { accessFlags := 16409, nameIndex := 24, descriptorIndex := 6, attributes := #[] }, { accessFlags := 26, nameIndex := 212, descriptorIndex := 47, attributes := #[] }, { accessFlags := 26, nameIndex := 216, descriptorIndex := 47, attributes := #[] }, { accessFlags := 26, nameIndex := 217, descriptorIndex := 47, attributes := #[] }, { accessFlags := 26, nameIndex := 218, descriptorIndex := 47, attributes := #[] }, { accessFlags := 26, nameIndex := 219, descriptorIndex := 47, attributes := #[] }, { accessFlags := 26, nameIndex := 220, descriptorIndex := 47, attributes := #[] }, { accessFlags := 26, nameIndex := 221, descriptorIndex := 47, attributes := #[] }, { accessFlags := 18, nameIndex := 46, descriptorIndex := 47, attributes := #[] }, { accessFlags := 18, nameIndex := 54, descriptorIndex := 47, attributes := #[] }, { accessFlags := 18, nameIndex := 62, descriptorIndex := 47, attributes := #[] }, { accessFlags := 18, nameIndex := 71, descriptorIndex := 47, attributes := #[] }, { accessFlags := 18, nameIndex := 79, descriptorIndex := 47, attributes := #[] }, { accessFlags := 18, nameIndex := 59, descriptorIndex := 47, attributes := #[] }, { accessFlags := 18, nameIndex := 67, descriptorIndex := 68, attributes := #[] }, { accessFlags := 18, nameIndex := 76, descriptorIndex := 68, attributes := #[] }, { accessFlags := 4122, nameIndex := 27, descriptorIndex := 28, attributes := #[] }])
  fields := #[{ name := "NANOSECONDS", type := (.object "java/util/concurrent/TimeUnit"), accessFlags := 16409, slot := 0, constantValue := 0 }, { name := "MICROSECONDS", type := (.object "java/util/concurrent/TimeUnit"), accessFlags := 16409, slot := 1, constantValue := 0 }, { name := "MILLISECONDS", type := (.object "java/util/concurrent/TimeUnit"), accessFlags := 16409, slot := 2, constantValue := 0 }, { name := "SECONDS", type := (.object "java/util/concurrent/TimeUnit"), accessFlags := 16409, slot := 3, constantValue := 0 }, { name := "MINUTES", type := (.object "java/util/concurrent/TimeUnit"), accessFlags := 16409, slot := 4, constantValue := 0 }, { name := "HOURS", type := (.object "java/util/concurrent/TimeUnit"), accessFlags := 16409, slot := 5, constantValue := 0 }, { name := "DAYS", type := (.object "java/util/concurrent/TimeUnit"), accessFlags := 16409, slot := 6, constantValue := 0 }, { name := "NANO_SCALE", type := .long, accessFlags := 26, slot := 7, constantValue := 0 }, { name := "MICRO_SCALE", type := .long, accessFlags := 26, slot := 8, constantValue := 0 }, { name := "MILLI_SCALE", type := .long, accessFlags := 26, slot := 9, constantValue := 0 }, { name := "SECOND_SCALE", type := .long, accessFlags := 26, slot := 10, constantValue := 0 }, { name := "MINUTE_SCALE", type := .long, accessFlags := 26, slot := 11, constantValue := 0 }, { name := "HOUR_SCALE", type := .long, accessFlags := 26, slot := 12, constantValue := 0 }, { name := "DAY_SCALE", type := .long, accessFlags := 26, slot := 13, constantValue := 0 }, { name := "scale", type := .long, accessFlags := 18, slot := 3, constantValue := 0 }, { name := "maxNanos", type := .long, accessFlags := 18, slot := 4, constantValue := 0 }, { name := "maxMicros", type := .long, accessFlags := 18, slot := 5, constantValue := 0 }, { name := "maxMillis", type := .long, accessFlags := 18, slot := 6, constantValue := 0 }, { name := "maxSecs", type := .long, accessFlags := 18, slot := 7, constantValue := 0 }, { name := "microRatio", type := .long, accessFlags := 18, slot := 8, constantValue := 0 }, { name := "milliRatio", type := .int, accessFlags := 18, slot := 9, constantValue := 0 }, { name := "secRatio", type := .int, accessFlags := 18, slot := 10, constantValue := 0 }, { name := "$VALUES", type := (.array (.object "java/util/concurrent/TimeUnit")), accessFlags := 4122, slot := 14, constantValue := 0 }]
  methods := #[k7m0]
  instanceTypes := #[(.object "java/lang/String"), .int, .int, .long, .long, .long, .long, .long, .long, .int, .int]
  staticTypes := #[(.object "java/util/concurrent/TimeUnit"), (.object "java/util/concurrent/TimeUnit"), (.object "java/util/concurrent/TimeUnit"), (.object "java/util/concurrent/TimeUnit"), (.object "java/util/concurrent/TimeUnit"), (.object "java/util/concurrent/TimeUnit"), (.object "java/util/concurrent/TimeUnit"), .long, .long, .long, .long, .long, .long, .long, (.array (.object "java/util/concurrent/TimeUnit"))]
  resolved := Array.replicate 283 none
  statics := some 0 }

def pool8 : Array CpInfo := pool [(1, .class_ 2), (0, u "java/lang/Math"), (1, .class_ 6), (1, u "java/lang/Object"), (0, u "<init>"), (0, u "()V"), (89, .class_ 100), (1, u "java/lang/Math$RandomNumberGeneratorHolder"), (20, u "(JJ)J"), (50, u "negativeZeroFloatBits"), (0, u "J"), (2, u "negativeZeroDoubleBits"), (21, u "max"), (46, u "$assertionsDisabled"), (0, u "Z"), (91, u "twoToTheDoubleScaleDown"), (0, u "D"), (4, u "twoToTheDoubleScaleUp"), (9, u "E"), (3, u "PI"), (2, u "TAU"), (2, u "DEGREES_TO_RADIANS"), (0, u "RADIANS_TO_DEGREES")] 94

def k8m0 : Method := { name := "<init>", desc := "()V", sig := { parameters := [], returnType := none }, accessFlags := 2, code := none }
def k8c1 : Code := { maxStack := 4, maxLocals := 4, code := jdk_29_method_66_code, exceptionTable := #[], attributes := #[] }
def k8m1 : Method := { name := "max", desc := "(JJ)J", sig := { parameters := [.long, .long], returnType := some .long }, accessFlags := 9, code := some k8c1 }
/-- java/lang/Math -/
def k8 : Class := { plain "java/lang/Math" (some 0) with
  accessFlags := 49
  interfaces := #[]
  cf := some (fileOf pool8 1 #[.nestMembers #[98]] #[{ accessFlags := 2, nameIndex := 7, descriptorIndex := 8, attributes := #[] }, { accessFlags := 9, nameIndex := 198, descriptorIndex := 121, attributes := #[] }] 49 4 #[] #[{ accessFlags := 25, nameIndex := 354, descriptorIndex := 339, attributes := #[] }, { accessFlags := 25, nameIndex := 358, descriptorIndex := 339, attributes := #[] }, { accessFlags := 25, nameIndex := 361, descriptorIndex := 339, attributes := #[] }, { accessFlags := 26, nameIndex := 364, descriptorIndex := 339, attributes := #[] }, { accessFlags := 26, nameIndex := 365, descriptorIndex := 339, attributes := #[] }, { accessFlags := 26, nameIndex := 172, descriptorIndex := 173, attributes := #[] }, { accessFlags := 26, nameIndex := 176, descriptorIndex := 173, attributes := #[] }, { accessFlags := 8, nameIndex := 344, descriptorIndex := 339, attributes := #[] }, { accessFlags := 8, nameIndex := 338, descriptorIndex := 339, attributes := #[] }, { accessFlags := 4120, nameIndex := 245, descriptorIndex := 246, attributes := #[] }])
  fields := #[{ name := "E", type := .double, accessFlags := 25, slot := 0, constantValue := 0 }, { name := "PI", type := .double, accessFlags := 25, slot := 1, constantValue := 0 }, { name := "TAU", type := .double, accessFlags := 25, slot := 2, constantValue := 0 }, { name := "DEGREES_TO_RADIANS", type := .double, accessFlags := 26, slot := 3, constantValue := 0 }, { name := "RADIANS_TO_DEGREES", type := .double, accessFlags := 26, slot := 4, constantValue := 0 }, { name := "negativeZeroFloatBits", type := .long, accessFlags := 26, slot := 5, constantValue := 0 }, { name := "negativeZeroDoubleBits", type := .long, accessFlags := 26, slot := 6, constantValue := 0 }, { name := "twoToTheDoubleScaleUp", type := .double, accessFlags := 8, slot := 7, constantValue := 0 }, { name := "twoToTheDoubleScaleDown", type := .double, accessFlags := 8, slot := 8, constantValue := 0 }, { name := "$assertionsDisabled", type := .boolean, accessFlags := 4120, slot := 9, constantValue := 0 }]
  methods := #[k8m0, k8m1]
  instanceTypes := #[]
  staticTypes := #[.double, .double, .double, .double, .double, .long, .long, .double, .double, .boolean]
  resolved := Array.replicate 460 none
  statics := none }

def pool9 : Array CpInfo := pool [(2, .class_ 4), (1, u "java/lang/CharSequence"), (42, .class_ 48), (0, u "java/lang/CharSequence$1CodePointIterator"), (10, .class_ 60), (0, u "java/lang/CharSequence$1CharIterator"), (5, .class_ 67), (0, u "java/lang/Object")] 63

/-- java/lang/CharSequence -/
def k9 : Class := { plain "java/lang/CharSequence" (some 0) with
  accessFlags := 1537
  interfaces := #[]
  cf := some (fileOf pool9 2 #[.nestMembers #[47, 59]] #[] 1537 66 #[] #[])
  fields := #[]
  methods := #[]
  instanceTypes := #[]
  staticTypes := #[]
  resolved := Array.replicate 131 none
  statics := none }

def pool10 : Array CpInfo := pool [(1, .class_ 2), (0, u "java/lang/constant/ConstantDesc"), (0, .class_ 4), (0, u "java/lang/Object")] 32

/-- java/lang/constant/ConstantDesc -/
def k10 : Class := { plain "java/lang/constant/ConstantDesc" (some 0) with
  accessFlags := 1537
  interfaces := #[]
  cf := some (fileOf pool10 1 #[] #[] 1537 3 #[] #[])
  fields := #[]
  methods := #[]
  instanceTypes := #[]
  staticTypes := #[]
  resolved := Array.replicate 37 none
  statics := none }

def pool11 : Array CpInfo := pool [(2, .class_ 4), (1, u "java/lang/Object"), (0, u "<init>"), (0, u "()V"), (3, .class_ 12), (1, u "java/lang/String"), (0, u "value"), (0, u "[B"), (2, u "coder"), (0, u "B"), (2, u "hash"), (0, u "I"), (2, u "hashIsZero"), (0, u "Z"), (13, u "COMPACT_STRINGS"), (534, .class_ 576), (0, u "java/lang/CharSequence"), (22, u "CASE_INSENSITIVE_ORDER"), (0, u "Ljava/util/Comparator;"), (500, u "serialPersistentFields"), (0, u "[Ljava/io/ObjectStreamField;"), (0, .class_ 1104), (0, u "java/lang/String$CaseInsensitiveComparator"), (1, .class_ 1107), (0, u "java/io/Serializable"), (0, .class_ 1109), (0, u "java/lang/Comparable"), (0, .class_ 1111), (0, u "java/lang/constant/Constable"), (0, .class_ 1113), (0, u "java/lang/constant/ConstantDesc"), (2, u "serialVersionUID"), (0, u "J"), (3, u "REPL"), (0, u "C"), (2, u "LATIN1"), (1, u "UTF16")] 323

def k11m0 : Method := { name := "<init>", desc := "()V", sig := { parameters := [], returnType := none }, accessFlags := 1, code := none }
/-- java/lang/String -/
def k11 : Class := { plain "java/lang/String" (some 0) with
  accessFlags := 49
  interfaces := #[5, 4, 9, 3, 10]
  cf := some (fileOf pool11 10 #[.nestMembers #[1103]] #[{ accessFlags := 1, nameIndex := 5, descriptorIndex := 6, attributes := #[] }] 49 2 #[1106, 1108, 575, 1110, 1112] #[{ accessFlags := 18, nameIndex := 13, descriptorIndex := 14, attributes := #[] }, { accessFlags := 18, nameIndex := 17, descriptorIndex := 18, attributes := #[] }, { accessFlags := 2, nameIndex := 21, descriptorIndex := 22, attributes := #[] }, { accessFlags := 2, nameIndex := 25, descriptorIndex := 26, attributes := #[] }, { accessFlags := 26, nameIndex := 1116, descriptorIndex := 1117, attributes := #[] }, { accessFlags := 24, nameIndex := 40, descriptorIndex := 26, attributes := #[] }, { accessFlags := 26, nameIndex := 1101, descriptorIndex := 1102, attributes := #[] }, { accessFlags := 26, nameIndex := 1121, descriptorIndex := 1122, attributes := #[] }, { accessFlags := 25, nameIndex := 599, descriptorIndex := 600, attributes := #[] }, { accessFlags := 24, nameIndex := 1125, descriptorIndex := 18, attributes := #[] }, { accessFlags := 24, nameIndex := 1127, descriptorIndex := 18, attributes := #[] }])
  fields := #[{ name := "value", type := (.array .byte), accessFlags := 18, slot := 0, constantValue := 0 }, { name := "coder", type := .byte, accessFlags := 18, slot := 1, constantValue := 0 }, { name := "hash", type := .int, accessFlags := 2, slot := 2, constantValue := 0 }, { name := "hashIsZero", type := .boolean, accessFlags := 2, slot := 3, constantValue := 0 }, { name := "serialVersionUID", type := .long, accessFlags := 26, slot := 0, constantValue := 0 }, { name := "COMPACT_STRINGS", type := .boolean, accessFlags := 24, slot := 1, constantValue := 0 }, { name := "serialPersistentFields", type := (.array (.object "java/io/ObjectStreamField")), accessFlags := 26, slot := 2, constantValue := 0 }, { name := "REPL", type := .char, accessFlags := 26, slot := 3, constantValue := 0 }, { name := "CASE_INSENSITIVE_ORDER", type := (.object "java/util/Comparator"), accessFlags := 25, slot := 4, constantValue := 0 }, { name := "LATIN1", type := .byte, accessFlags := 24, slot := 5, constantValue := 0 }, { name := "UTF16", type := .byte, accessFlags := 24, slot := 6, constantValue := 0 }]
  methods := #[k11m0]
  instanceTypes := #[(.array .byte), .byte, .int, .boolean]
  staticTypes := #[.long, .boolean, (.array (.object "java/io/ObjectStreamField")), .char, (.object "java/util/Comparator"), .byte, .byte]
  resolved := Array.replicate 1451 none
  statics := none }

def pool12 : Array CpInfo := pool [(1, u "java/lang/Cloneable"), (0, .class_ 1), (0, u "java/lang/Object"), (0, .class_ 3)] 3

/-- java/lang/Cloneable -/
def k12 : Class := { plain "java/lang/Cloneable" (some 0) with
  accessFlags := 1537
  interfaces := #[]
  cf := some (fileOf pool12 2 #[] #[] 1537 4 #[] #[])
  fields := #[]
  methods := #[]
  instanceTypes := #[]
  staticTypes := #[]
  resolved := Array.replicate 8 none
  statics := none }

/-- the primitive byte -/
def k13 : Class := { plain "byte" none with kind := .primitive 'B', accessFlags := 0x411 }
/-- [B -/
def k14 : Class := { plain "[B" (some 0) with kind := .array 13 .byte, interfaces := #[12, 5], accessFlags := 1041 }

/-- the primitive int -/
def k15 : Class := { plain "int" none with kind := .primitive 'I', accessFlags := 0x411 }
/-- [I -/
def k16 : Class := { plain "[I" (some 0) with kind := .array 15 .int, interfaces := #[12, 5], accessFlags := 1041 }

def heap : Heap := #[{ cls := 7, slots := #[.null, .null, .ref 1, .null, .null, .null, .null, .long 0, .long 0, .long 0, .long 0, .long 0, .long 0, .long 0, .null], vm := .statics 7 },
  { cls := 7, slots := #[.ref 2, .int 2, .int 0, .long 1000000, .long 9223372036854, .long 9223372036854775, .long 9223372036854775807, .long 9223372036854775, .long 1000, .int 1, .int 1000], vm := .none },
  { cls := 11, slots := #[.null, .int 0, .int 0, .int 0], vm := .none }]
def classes : Array Class := #[k0, k1, k2, k3, k4, k5, k6, k7, k8, k9, k10, k11, k12, k13, k14, k15, k16]
def interned : List (Array UInt16 × Addr) := []
def slotsUsed : Nat := 30
def theMethod : MethodId := ⟨1, 3⟩
def args0 : Array Value := #[.long 5, .int 0]
def aboutOver (below : List Frame) : State where
  vm := { classes := classes, interned := interned.toArray }
  heap := heap
  slotsUsed := slotsUsed
  threads := #[{ frames := .invoking theMethod args0 :: below }]
def below0 : List Frame := [.native { method := ⟨0, 0⟩, args := #[] }]
def about1 : State := aboutOver below0
def p0 : Program := .bare "" "" ""
def e0 : Env := launch0.env 0 0 0
theorem w_frames : about1.frames = Frame.invoking theMethod args0 :: below0 := rfl
set_option maxRecDepth 65536 in
theorem w_args : argsFit about1.vm theMethod args0 = true := by decide +kernel
set_option maxRecDepth 65536 in
theorem w_heap : heapFits about1 = true := by decide +kernel
set_option maxRecDepth 65536 in
theorem w_runnable : about1.curStatus? = some .runnable := by decide +kernel
set_option maxRecDepth 65536 in
theorem w_alone : about1.alone = true := by decide +kernel
set_option maxRecDepth 65536 in
theorem w_named : about1.methodNamed? x = some theMethod := by decide +kernel
set_option maxRecDepth 65536 in
theorem w_hears : about1.hears theMethod below0 = true := by decide +kernel
set_option maxRecDepth 65536 in
theorem w_ripe : about1.ripe theMethod args0 below0 = true := by decide +kernel
theorem w_running : about1.status = .running := rfl
set_option maxRecDepth 65536 in
theorem w_room : about1.hasRoom e0.platform room_1 = true :=
  launch0.hasRoom_least _ room_1 (by decide +kernel) (by decide +kernel) (by decide +kernel) (by decide +kernel) (by decide +kernel) (by decide +kernel)
theorem allAtoms_all (ts : List Jvm.Cond) (a : Array Jvm.Value) (st : Jvm.State) : (allAtoms ts).before a st = ts.all (fun c => c.before a st) := by
  induction ts with
  | nil => rfl
  | cons c t ih =>
    show (Jvm.Cond.and c (allAtoms t)).before a st = _
    rw [Jvm.Cond.before_and, ih, List.all_cons]
def words1 : List Jvm.Cond := Jvm.Cond.code x code maxLocals ret :: tables_1
/-- a 'code' word, met by the world's own term for the bytes: nothing is compared byte by byte -/
theorem code_word {y : MethodName} {bytes : ByteArray} {mx : Nat} {rt : Option FieldType} {a : Array Value} {s : State} {m : MethodId} {meth : Method} {c : Code} (h1 : s.methodNamed? y = some m) (h2 : s.vm.method? m = some meth) (h3 : meth.code = some c) (h4 : c.code = bytes)
    (h5 : (c.maxLocals == mx && c.exceptionTable.isEmpty && decide (c.maxStack ≤ mostOperands) && decide (meth.sig.returnType = rt) && !meth.locks && decide (parseMethodDescriptor y.desc = some meth.sig)) = true) : (Jvm.Cond.code y bytes mx rt).before a s = true := by
  simp only [Bool.and_eq_true, beq_iff_eq, Bool.not_eq_true', decide_eq_true_eq] at h5
  obtain ⟨⟨⟨⟨⟨g1, g2⟩, g3⟩, g4⟩, g5⟩, g6⟩ := h5
  simp [Cond.before, Cond.holds, Cond.value, h1, h2, h3, h4, g1, g2, g3, g4, g5, g6]
def isCode : Jvm.Cond → Bool
  | .code _ _ _ _ => true
  | _ => false
theorem all_split {L : List Jvm.Cond} {P : Jvm.Cond → Bool} (h1 : L.all (fun c => isCode c || P c) = true) (h2 : ∀ c ∈ L.filter isCode, P c = true) : L.all P = true := by
  refine List.all_eq_true.mpr fun c hc => ?_
  have h := List.all_eq_true.mp h1 c hc
  rcases Bool.eq_false_or_eq_true (isCode c) with hi | hi
  · exact h2 c (List.mem_filter.mpr ⟨hc, hi⟩)
  · simpa [hi] using h
set_option maxRecDepth 65536 in
theorem w_c0 : (Jvm.Cond.code x code maxLocals ret).before args0 about1 = true := code_word (m := ⟨1, 3⟩) (meth := k1m3) (c := k1c3) (by decide +kernel) rfl rfl rfl (by decide +kernel)
set_option maxRecDepth 65536 in
theorem w_c1 : (Jvm.Cond.code ({ cls := "com/example/leasy/leasy/LeaseLengthTrustedElapsedNanosPinLaw", name := "pickInput", desc := "(JI)J" } : Jvm.MethodName) method_2_code (4 : Nat) (Option.some Jvm.ClassFile.FieldType.long)).before args0 about1 = true := code_word (m := ⟨1, 1⟩) (meth := k1m1) (c := k1c1) (by decide +kernel) rfl rfl rfl (by decide +kernel)
set_option maxRecDepth 65536 in
theorem w_c2 : (Jvm.Cond.code ({ cls := "com/example/leasy/leasy/LeaseLength", name := "trustedElapsedNanos", desc := "(J)J" } : Jvm.MethodName) prog_2_method_3_code (4 : Nat) (Option.some Jvm.ClassFile.FieldType.long)).before args0 about1 = true := code_word (m := ⟨2, 1⟩) (meth := k2m1) (c := k2c1) (by decide +kernel) rfl rfl rfl (by decide +kernel)
set_option maxRecDepth 65536 in
theorem w_c3 : (Jvm.Cond.code ({ cls := "java/lang/Math", name := "max", desc := "(JJ)J" } : Jvm.MethodName) jdk_29_method_66_code (4 : Nat) (Option.some Jvm.ClassFile.FieldType.long)).before args0 about1 = true := code_word (m := ⟨8, 1⟩) (meth := k8m1) (c := k8c1) (by decide +kernel) rfl rfl rfl (by decide +kernel)
set_option maxRecDepth 65536 in
theorem w_c4 : (Jvm.Cond.code ({ cls := "java/util/concurrent/TimeUnit", name := "toNanos", desc := "(J)J" } : Jvm.MethodName) jdk_2799_method_7_code (7 : Nat) (Option.some Jvm.ClassFile.FieldType.long)).before args0 about1 = true := code_word (m := ⟨7, 0⟩) (meth := k7m0) (c := k7c0) (by decide +kernel) rfl rfl rfl (by decide +kernel)
set_option maxRecDepth 65536 in
theorem w_c5 : (Jvm.Cond.code ({ cls := "com/example/leasy/leasy/LeaseLengthTrustedElapsedNanosPinLaw", name := "reference", desc := "(J)J" } : Jvm.MethodName) method_3_code (2 : Nat) (Option.some Jvm.ClassFile.FieldType.long)).before args0 about1 = true := code_word (m := ⟨1, 2⟩) (meth := k1m2) (c := k1c2) (by decide +kernel) rfl rfl rfl (by decide +kernel)
def codes1 : List Jvm.Cond := [Jvm.Cond.code x code maxLocals ret, Jvm.Cond.code ({ cls := "com/example/leasy/leasy/LeaseLengthTrustedElapsedNanosPinLaw", name := "pickInput", desc := "(JI)J" } : Jvm.MethodName) method_2_code (4 : Nat) (Option.some Jvm.ClassFile.FieldType.long), Jvm.Cond.code ({ cls := "com/example/leasy/leasy/LeaseLength", name := "trustedElapsedNanos", desc := "(J)J" } : Jvm.MethodName) prog_2_method_3_code (4 : Nat) (Option.some Jvm.ClassFile.FieldType.long), Jvm.Cond.code ({ cls := "java/lang/Math", name := "max", desc := "(JJ)J" } : Jvm.MethodName) jdk_29_method_66_code (4 : Nat) (Option.some Jvm.ClassFile.FieldType.long), Jvm.Cond.code ({ cls := "java/util/concurrent/TimeUnit", name := "toNanos", desc := "(J)J" } : Jvm.MethodName) jdk_2799_method_7_code (7 : Nat) (Option.some Jvm.ClassFile.FieldType.long), Jvm.Cond.code ({ cls := "com/example/leasy/leasy/LeaseLengthTrustedElapsedNanosPinLaw", name := "reference", desc := "(J)J" } : Jvm.MethodName) method_3_code (2 : Nat) (Option.some Jvm.ClassFile.FieldType.long)]
set_option maxRecDepth 65536 in
theorem codes_eq : words1.filter isCode = codes1 := rfl
theorem w_codes : ∀ c ∈ words1.filter isCode, c.before args0 about1 = true := by
  rw [codes_eq]
  intro c hc
  simp only [codes1, List.mem_cons, List.not_mem_nil, or_false] at hc
  rcases hc with rfl | rfl | rfl | rfl | rfl | rfl
  · exact w_c0
  · exact w_c1
  · exact w_c2
  · exact w_c3
  · exact w_c4
  · exact w_c5
set_option maxRecDepth 65536 in
theorem w_t1 : (words1.take 24).all (fun c => isCode c || c.before args0 about1) = true := by decide +kernel
set_option maxRecDepth 65536 in
theorem w_t2 : (words1.drop 24).all (fun c => isCode c || c.before args0 about1) = true := by decide +kernel
theorem w_tables : (allAtoms (Jvm.Cond.code x code maxLocals ret :: tables_1)).before args0 about1 = true := by
  rw [allAtoms_all]
  show words1.all (fun c => c.before args0 about1) = true
  refine all_split ?_ w_codes
  rw [← List.take_append_drop 24 words1, List.all_append, w_t1, w_t2]
  rfl
set_option maxRecDepth 65536 in
theorem w_rest : rest_1_c.before args0 about1 = true := by decide +kernel
set_option maxRecDepth 65536 in
theorem w_case : (Jvm.Cond.and given_1 narrow_1).before args0 about1 = true := by decide +kernel
theorem w_applies : (headSpec (Jvm.Cond.code x code maxLocals ret :: tables_1) room_1).applies x e0.platform about1 = true :=
  (Spec.applies_iff w_frames).mpr ⟨w_running, w_runnable, w_alone, w_named, w_hears, w_ripe, w_room, w_tables⟩
theorem atStart : AtStart classFile x code maxLocals ret World_1 tables_1 room_1 Calls_1 rest_1 Pre_1 launch0 p0 e0 about1 theMethod args0 below0 :=
  ⟨lists_1, trivial, launch0.admits_env _ _ _, launch0.least_env, fairChoices_fair.cas, fairChoices_fair.clock, w_frames, w_args, w_heap, w_applies, trivial, w_rest, w_case⟩
end start1
theorem witness_1 : WitnessClaimed_1 := ⟨start1.p0, start1.e0, start1.about1, start1.theMethod, start1.args0, start1.below0, start1.atStart⟩
end Jvm.Pilot.@@N@@
