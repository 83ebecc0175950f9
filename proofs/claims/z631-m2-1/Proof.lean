import JvmDerived
import JvmDerived.Pilot.@@N@@Statement
import JvmDerived.Pilot.@@N@@Code
set_option linter.unusedVariables false
set_option linter.unusedSimpArgs false
namespace Jvm.Pilot.@@N@@
open Jvm Jvm.ClassFile Sem Op Lib Jvm.Free Jvm.Stand Jvm.LawKit Jvm.RoadKit Bundle Jvm.Pilot.@@N@@.Jvm.D
/-! 0. the walk's goal, and how a step leads to it -/
def OGoal (p : Program) (e : Env) (below : List Frame) (Φ : Outcome → State → Prop) (T : State) (g : JFrame) : Prop :=
  ∃ s₂ o, Steps p.tables e below (T.setTop g) s₂ ∧ s₂.status = .running ∧ Ended s₂ below o ∧ Φ o s₂
theorem own_by {p : Program} {e : Env} {below : List Frame} {Φ : Outcome → State → Prop} {T T' : State} {g g' : JFrame}
    (st : ∀ t, Steps p.tables e below (T'.setTop g') t → Steps p.tables e below (T.setTop g) t) (G : OGoal p e below Φ T' g') : OGoal p e below Φ T g := by
  obtain ⟨s₂, o, h1, h2⟩ := G
  exact ⟨s₂, o, st _ h1, h2⟩
theorem own_enter {p : Program} {e : Env} {below : List Frame} {Φ : Outcome → State → Prop} {T : State} {g g' : JFrame} (q : g = g') (G : OGoal p e below Φ T g') :
    ∃ s₂ o, Steps p.tables e below (T.setTop g) s₂ ∧ s₂.status = .running ∧ Ended s₂ below o ∧ Φ o s₂ := by subst q; exact G
theorem own_kext {h h' : Heap} (E : Ext h h') : Keep h h' [] := (Keep.refl h []).ext E
theorem own_narR {ty : FieldType} {v : Value} (hty : ty.isReference = true) (h : v.isRef = true) : narrow ty v = v := by
  rcases ref_cases h with rfl | ⟨a, rfl⟩ <;> cases ty <;> first | rfl | (cases hty)
theorem own_fitR {ty : FieldType} {v : Value} (hty : ty.isReference = true) (h : v.isRef = true) : fits ty v = true := by
  rcases ref_cases h with rfl | ⟨a, rfl⟩ <;> cases ty <;> first | rfl | (cases hty)
theorem own_narC (x : Int32) : nar .char (x.toUInt32.toUInt16.toUInt32.toInt32) = x.toUInt32.toUInt16.toUInt32.toInt32 := by
  show (x.toUInt32.toUInt16.toUInt32.toInt32).toUInt32.toUInt16.toUInt32.toInt32 = _
  simp only [UInt32.toUInt32_toInt32, UInt16.toUInt16_toUInt32]
theorem own_narB (x : Int32) : nar .byte (x.toInt8.toInt32) = x.toInt8.toInt32 := by
  show (x.toInt8.toInt32).toInt8.toInt32 = _
  simp
theorem own_fldI {Z : State} {args : Array Value} {t : Term} {a : Addr} {C n d : String} {k : Int32} (ev : t.eval args Z none [] Z = some (.ref a)) (h : (Jvm.Cond.eq (.field t C n d) (.int k)).value args Z none Z [] = some true) : Fld Z Z.heap a C n d (.int k) :=
  Fld.start ((fld_at ev).symm.trans (eqv_i (Term.int_eval k) h))
theorem own_fldJ {Z : State} {args : Array Value} {t : Term} {a : Addr} {C n d : String} {k : Int64} (ev : t.eval args Z none [] Z = some (.ref a)) (h : (Jvm.Cond.eq (.field t C n d) (.long k)).value args Z none Z [] = some true) : Fld Z Z.heap a C n d (.long k) :=
  Fld.start ((fld_at ev).symm.trans (eqv_l (F := .long k) rfl h))
def Glob (Z : State) (zC : Int32) : Prop := Sta Z Z.heap "java/lang/String" "COMPACT_STRINGS" "Z" (.int zC) ∧ ¬ zC = (0 : Int32)
def okF (c : Int32) : Prop := ¬ c < 0 ∧ ¬ (255 : Int32) < c
theorem own_okI {c : Int32} (h : okF c) : 0 ≤ c.toInt ∧ c.toInt ≤ 255 := by
  obtain ⟨h1, h2⟩ := h
  rw [Int32.lt_iff_toInt_lt] at h1 h2
  have e0 : (0 : Int32).toInt = 0 := rfl
  have e2 : (255 : Int32).toInt = 255 := rfl
  omega
theorem own_ok (x : Int32) : okF ((x &&& (255 : Int32)).toUInt32.toUInt16.toUInt32.toInt32) := by
  rw [i2c_mask]
  have := c_and x (255 : Int32) (by decide)
  have e0 : (0 : Int32).toInt = 0 := rfl
  have e2 : (255 : Int32).toInt = 255 := rfl
  constructor <;> rw [Int32.lt_iff_toInt_lt] <;> omega
theorem own_narok {c : Int32} (h : okF c) : nar .char c = c := by
  obtain ⟨h1, h2⟩ := own_okI h
  have e : (c &&& (255 : Int32)) = c := by
    rw [← Int32.toInt_inj, c_mask c (255 : Int32) 8 (by decide) (by decide)]
    show c.toInt % 256 = c.toInt
    omega
  rw [← e]
  exact i2c_mask c
theorem own_fitok {c : Int32} (h : okF c) : fits .char (.int c) = true := by
  have := fits_nar_char c
  rw [own_narok h] at this; exact this
theorem own_b8 {x y : Int32} (hx : okF x) (hy : okF y) : (x.toInt8.toInt32 = y.toInt8.toInt32) ↔ (x = y) := by
  constructor
  · intro h
    obtain ⟨a1, a2⟩ := own_okI hx
    obtain ⟨b1, b2⟩ := own_okI hy
    have c1 := (c_i2b x).1
    have c2 := (c_i2b y).1
    rw [h] at c1
    rw [← Int32.toInt_inj]; omega
  · intro h; rw [h]
theorem own_nsroot {Z : State} {a0 : Array Value} {O K : String} {n : Nat} (w : (Jvm.Cond.noSuperclass O).before a0 Z = true) (wk : (Jvm.Cond.instantiable K n).before a0 Z = true) (hn : O ≠ K) : NS Z O K := by
  obtain ⟨c, k, h1, h2, h3, -⟩ := Cond.noSuperclass_spec w
  obtain ⟨t, kt, g1, -⟩ := Cond.instantiable_spec wk
  have ne := ids_ne h1 g1 hn
  refine ⟨c, t, h1, g1, fun fuel => ?_⟩
  cases fuel with
  | zero => rfl
  | succ f => simp [Vm.isSubclassAux, ne, h2, h3]
theorem own_noinst {Z : State} {a0 : Array Value} {C S K : String} {n : Nat} (w : (Jvm.Cond.superclass C S).before a0 Z = true) (wk : (Jvm.Cond.instantiable K n).before a0 Z = true) (q : NS Z C K) (hn : C ≠ K) : ∃ c t, Z.vm.findClass C = some c ∧ Z.vm.findClass K = some t ∧ Z.vm.assignable c t = false := by
  obtain ⟨c, t, h0, g0, n3⟩ := q
  obtain ⟨p, k, kp, h1, h2, h3, h4, h5, -, h7⟩ := Cond.superclass_spec h0 w
  obtain ⟨t', kt, g1, g2, g3, g4, -⟩ := Cond.instantiable_spec wk
  cases g0.symm.trans g1
  have ne := ids_ne h0 g0 hn
  have g5 : kt.isInterface = false := by
    cases hq : kt.isInterface with
    | false => rfl
    | true => simp [hq] at g4
  refine ⟨c, t, h0, g0, ?_⟩
  show Z.vm.assignableAux (255 + 1) c t = false
  simp [Vm.assignableAux, ne, h2, g2, h5, g3, g5, Vm.isSubclass, n3]
def bF (l c0 c1 c2 : Int32) : List Value := if l = (1 : Int32) then [(.int c0.toInt8.toInt32)] else if l = (2 : Int32) then [(.int c0.toInt8.toInt32), (.int c1.toInt8.toInt32)] else [(.int c0.toInt8.toInt32), (.int c1.toInt8.toInt32), (.int c2.toInt8.toInt32)]
def eqF (l b0 b1 b2 k c0 c1 c2 : Int32) : Int32 := if l = k then (if b0.toInt8.toInt32 = c0.toInt8.toInt32 then (if l = (1 : Int32) then (1 : Int32) else (if b1.toInt8.toInt32 = c1.toInt8.toInt32 then (if l = (2 : Int32) then (1 : Int32) else (if b2.toInt8.toInt32 = c2.toInt8.toInt32 then (1 : Int32) else (0 : Int32))) else (0 : Int32))) else (0 : Int32)) else (0 : Int32)
theorem own_len3 (x : Int32) : ((((x &&& (3 : Int32)) % (3 : Int32)) + (1 : Int32)) = (1 : Int32) ∨ (((x &&& (3 : Int32)) % (3 : Int32)) + (1 : Int32)) = (2 : Int32) ∨ (((x &&& (3 : Int32)) % (3 : Int32)) + (1 : Int32)) = (3 : Int32)) := by
  have h := c_mask x (3 : Int32) 2 (by decide) (by decide)
  have r := (c_irem (x &&& (3 : Int32)) (3 : Int32) 3 rfl).1 (by rw [h]; exact Int.emod_nonneg _ (by decide))
  have c := c_iadd ((x &&& (3 : Int32)) % (3 : Int32)) (1 : Int32)
  have a := Int32.le_toInt (((x &&& (3 : Int32)) % (3 : Int32)) + (1 : Int32))
  have b := Int32.toInt_lt (((x &&& (3 : Int32)) % (3 : Int32)) + (1 : Int32))
  simp only [← Int32.toInt_inj]
  have e1 : (1 : Int32).toInt = 1 := rfl
  have e2 : (2 : Int32).toInt = 2 := rfl
  have e3 : (3 : Int32).toInt = 3 := rfl
  omega
theorem own_eqsym (l b0 b1 b2 k c0 c1 c2 : Int32) (hl : (l = (1 : Int32) ∨ l = (2 : Int32) ∨ l = (3 : Int32))) (hk : (k = (1 : Int32) ∨ k = (2 : Int32) ∨ k = (3 : Int32))) : eqF k c0 c1 c2 l b0 b1 b2 = eqF l b0 b1 b2 k c0 c1 c2 := by
  unfold eqF
  by_cases h : l = k
  · subst h; simp only [if_true, eq_comm]
  · rw [if_neg h, if_neg (fun q => h q.symm)]
theorem own_bF1 (c0 c1 c2 : Int32) : bF (1 : Int32) c0 c1 c2 = [(.int c0.toInt8.toInt32)] := by simp [bF]
theorem own_eqF11 (b0 b1 b2 c0 c1 c2 : Int32) : eqF (1 : Int32) b0 b1 b2 (1 : Int32) c0 c1 c2 = (if b0.toInt8.toInt32 = c0.toInt8.toInt32 then (1 : Int32) else (0 : Int32)) := by simp [eqF]
theorem own_eqF12 (b0 b1 b2 c0 c1 c2 : Int32) : eqF (1 : Int32) b0 b1 b2 (2 : Int32) c0 c1 c2 = (0 : Int32) := by simp [eqF]
theorem own_eqF13 (b0 b1 b2 c0 c1 c2 : Int32) : eqF (1 : Int32) b0 b1 b2 (3 : Int32) c0 c1 c2 = (0 : Int32) := by simp [eqF]
theorem own_bF2 (c0 c1 c2 : Int32) : bF (2 : Int32) c0 c1 c2 = [(.int c0.toInt8.toInt32), (.int c1.toInt8.toInt32)] := by simp [bF]
theorem own_eqF21 (b0 b1 b2 c0 c1 c2 : Int32) : eqF (2 : Int32) b0 b1 b2 (1 : Int32) c0 c1 c2 = (0 : Int32) := by simp [eqF]
theorem own_eqF22 (b0 b1 b2 c0 c1 c2 : Int32) : eqF (2 : Int32) b0 b1 b2 (2 : Int32) c0 c1 c2 = (if b0.toInt8.toInt32 = c0.toInt8.toInt32 then (if b1.toInt8.toInt32 = c1.toInt8.toInt32 then (1 : Int32) else (0 : Int32)) else (0 : Int32)) := by simp [eqF]
theorem own_eqF23 (b0 b1 b2 c0 c1 c2 : Int32) : eqF (2 : Int32) b0 b1 b2 (3 : Int32) c0 c1 c2 = (0 : Int32) := by simp [eqF]
theorem own_bF3 (c0 c1 c2 : Int32) : bF (3 : Int32) c0 c1 c2 = [(.int c0.toInt8.toInt32), (.int c1.toInt8.toInt32), (.int c2.toInt8.toInt32)] := by simp [bF]
theorem own_eqF31 (b0 b1 b2 c0 c1 c2 : Int32) : eqF (3 : Int32) b0 b1 b2 (1 : Int32) c0 c1 c2 = (0 : Int32) := by simp [eqF]
theorem own_eqF32 (b0 b1 b2 c0 c1 c2 : Int32) : eqF (3 : Int32) b0 b1 b2 (2 : Int32) c0 c1 c2 = (0 : Int32) := by simp [eqF]
theorem own_eqF33 (b0 b1 b2 c0 c1 c2 : Int32) : eqF (3 : Int32) b0 b1 b2 (3 : Int32) c0 c1 c2 = (if b0.toInt8.toInt32 = c0.toInt8.toInt32 then (if b1.toInt8.toInt32 = c1.toInt8.toInt32 then (if b2.toInt8.toInt32 = c2.toInt8.toInt32 then (1 : Int32) else (0 : Int32)) else (0 : Int32)) else (0 : Int32)) := by simp [eqF]
theorem own_d6_0 : decode jdk_52_method_21_code 0 = .ok (.iconst 0, 1) := by decide +kernel
theorem own_d6_1 : decode jdk_52_method_21_code 1 = .ok (.istore 5, 2) := by decide +kernel
theorem own_d6_3 : decode jdk_52_method_21_code 3 = .ok (.iload 5, 2) := by decide +kernel
theorem own_d6_5 : decode jdk_52_method_21_code 5 = .ok (.iload 4, 2) := by decide +kernel
theorem own_d6_7 : decode jdk_52_method_21_code 7 = .ok (.if_icmp .ge 37, 3) := by decide +kernel
theorem own_d6_10 : decode jdk_52_method_21_code 10 = .ok (.aload_n 0, 1) := by decide +kernel
theorem own_d6_11 : decode jdk_52_method_21_code 11 = .ok (.iload_n 1, 1) := by decide +kernel
theorem own_d6_12 : decode jdk_52_method_21_code 12 = .ok (.caload, 1) := by decide +kernel
theorem own_d6_13 : decode jdk_52_method_21_code 13 = .ok (.istore 6, 2) := by decide +kernel
theorem own_d6_15 : decode jdk_52_method_21_code 15 = .ok (.iload 6, 2) := by decide +kernel
theorem own_d6_17 : decode jdk_52_method_21_code 17 = .ok (.sipush 255, 3) := by decide +kernel
theorem own_d6_20 : decode jdk_52_method_21_code 20 = .ok (.if_icmp .le 6, 3) := by decide +kernel
theorem own_d6_26 : decode jdk_52_method_21_code 26 = .ok (.aload_n 2, 1) := by decide +kernel
theorem own_d6_27 : decode jdk_52_method_21_code 27 = .ok (.iload_n 3, 1) := by decide +kernel
theorem own_d6_28 : decode jdk_52_method_21_code 28 = .ok (.iload 6, 2) := by decide +kernel
theorem own_d6_30 : decode jdk_52_method_21_code 30 = .ok (.i2b, 1) := by decide +kernel
theorem own_d6_31 : decode jdk_52_method_21_code 31 = .ok (.bastore, 1) := by decide +kernel
theorem own_d6_32 : decode jdk_52_method_21_code 32 = .ok (.iinc 1 1, 3) := by decide +kernel
theorem own_d6_35 : decode jdk_52_method_21_code 35 = .ok (.iinc 3 1, 3) := by decide +kernel
theorem own_d6_38 : decode jdk_52_method_21_code 38 = .ok (.iinc 5 1, 3) := by decide +kernel
theorem own_d6_41 : decode jdk_52_method_21_code 41 = .ok (.goto (-38), 3) := by decide +kernel
theorem own_d6_44 : decode jdk_52_method_21_code 44 = .ok (.iload 4, 2) := by decide +kernel
theorem own_d6_46 : decode jdk_52_method_21_code 46 = .ok (.ireturn, 1) := by decide +kernel
theorem own_pn_java_lang_StringUTF16 : plainName "java/lang/StringUTF16" = true := by first | (simp [plainName, overriddenIn]; done) | decide +kernel
theorem own_ef_rmC5_1 (m : MethodId) (x0 : Addr) (x1 : Int32) (x2 : Addr) (x3 : Int32) (x4 : Int32) : entryFrame m #[(.ref x0), (.int x1), (.ref x2), (.int x3), (.int x4)] 7 = mkF m 0 #[.val (.ref x0), .val (.int x1), .val (.ref x2), .val (.int x3), .val (.int x4), .unset, .unset] [] := by first | (simp [entryFrame, mkF, argsToLocals, Value.category]; done) | rfl
def Q_rmC5_1 (Z : State) (zC : Int32) (b : Addr) (d : Addr) (kC : ClassId) (kB : ClassId) (c0 : Int32) (h0 : Heap) (n0 : Nat) (vv_ : Option Value) (hh_ : Heap) (LL_ : List Loc) : Prop := vv_ = some (.int (1 : Int32)) ∧ Fr n0 LL_ ∧ Keep h0 hh_ [d] ∧ Arv Z hh_ d kB .byte (1 : Int32) [(.int c0.toInt8.toInt32)] (.int (0 : Int32))
set_option maxRecDepth 65536 in
set_option maxHeartbeats 40000000 in
theorem rmC5_1 (l : Launch) (Z : State) (a0 : Array Value) (hw : ∀ d ∈ tables_1, d.before a0 Z = true) (ws : List Jvm.Cond) (zC : Int32) (GS : Glob Z zC) (b : Addr) (d : Addr) (kC : ClassId) (kB : ClassId) (c0 : Int32) (h0 : Heap) (n0 : Nat) (Z0 : n0 ≤ h0.size) (O0 : Old Z n0 h0) (Vb : Arv Z h0 b kC .char (1 : Int32) [(.int c0)] (.int (0 : Int32))) (Vd : Arv Z h0 d kB .byte (1 : Int32) [(.int (0 : Int32))] (.int (0 : Int32))) (gd : n0 ≤ d) (hbd : b ≠ d) (hp0 : ¬ (255 : Int32) < c0) :
    MetFree l (⟨"java/lang/StringUTF16", "compress", "([CI[BII)I"⟩ : MethodName) (head1 (Jvm.Cond.code (⟨"java/lang/StringUTF16", "compress", "([CI[BII)I"⟩ : MethodName) jdk_52_method_21_code 7 (some .int) :: ws) ({ frames := 0, cells := 0, slots := 0, locals := 0 } : Room)) (fun aa_ UU_ => aa_ = #[(.ref b), (.int (0 : Int32)), (.ref d), (.int (0 : Int32)), (.int (1 : Int32))] ∧ Z.Warmed39 UU_.vm ∧ UU_.heap = h0) (fun _ _ _ _ _ => True) (fun _ UU_ oo_ UV_ => ∃ vv_ LL_, oo_ = .returned vv_ ∧ Q_rmC5_1 Z zC b d kC kB c0 h0 n0 vv_ UV_.heap LL_ ∧ FrameEnd UU_ oo_ UV_ LL_ ({ frames := 0, cells := 0, slots := 0, locals := 0 } : Room).cells ({ frames := 0, cells := 0, slots := 0, locals := 0 } : Room).slots) := by
  refine MetFree.of_bodySF (plainFor_of_name own_pn_java_lang_StringUTF16) hisR ?_
  intro p e s m args below meth c s₁ Bd hml0 hP hK
  obtain ⟨rfl, hZ, hh⟩ := hP
  have hx := Bd.exec
  have hby := Bd.bytes
  have hml : c.maxLocals = 7 := hml0
  have hown : s.vm.findClass "java/lang/StringUTF16" = some m.cls := findClass_of_methodNamed Bd.named
  have hnm := (name_of_methodNamed Bd.named Bd.method).1
  have X0 : Stand p l e ({ frames := 0, cells := 0, slots := 0, locals := 0 } : Room) s m #[(.ref b), (.int (0 : Int32)), (.ref d), (.int (0 : Int32)), (.int (1 : Int32))] below meth c s₁ [] 0 0 := Stand.of_body Bd
  have e0 : s₁.heap = h0 := by rw [← hh, Bd.state]; rfl
  have N0 := Fr.nil n0
  have hn0 : Z.heap.size = n0 := O0.1
  have KT0 : Keep h0 h0 [d] := Keep.refl _ _
  refine own_enter (Φ := fun oo_ UV_ => ∃ vv_ LL_, oo_ = .returned vv_ ∧ Q_rmC5_1 Z zC b d kC kB c0 h0 n0 vv_ UV_.heap LL_ ∧ FrameEnd s oo_ UV_ LL_ ({ frames := 0, cells := 0, slots := 0, locals := 0 } : Room).cells ({ frames := 0, cells := 0, slots := 0, locals := 0 } : Room).slots) (own_ef_rmC5_1 m b (0 : Int32) d (0 : Int32) (1 : Int32)) ?_
  have ne1 : b ≠ d := hbd
  refine own_by (T' := s₁) (g' := (mkF m 1 #[.val (.ref b), .val (.int (0 : Int32)), .val (.ref d), .val (.int (0 : Int32)), .val (.int (1 : Int32)), .unset, .unset] [(.int (0 : Int32))])) (fun _ kt_ => XS.iconst X0.here hx rfl (hb hby own_d6_0) kt_) ?_
  refine own_by (T' := s₁) (g' := (mkF m 3 #[.val (.ref b), .val (.int (0 : Int32)), .val (.ref d), .val (.int (0 : Int32)), .val (.int (1 : Int32)), .val (.int (0 : Int32)), .unset] [])) (fun _ kt_ => XS.istore X0.here hx rfl (hb hby own_d6_1) rfl (l' := #[.val (.ref b), .val (.int (0 : Int32)), .val (.ref d), .val (.int (0 : Int32)), .val (.int (1 : Int32)), .val (.int (0 : Int32)), .unset]) rfl kt_) ?_
  refine own_by (T' := s₁) (g' := (mkF m 5 #[.val (.ref b), .val (.int (0 : Int32)), .val (.ref d), .val (.int (0 : Int32)), .val (.int (1 : Int32)), .val (.int (0 : Int32)), .unset] [(.int (0 : Int32))])) (fun _ kt_ => XS.iload X0.here hx rfl (hb hby own_d6_3) rfl kt_) ?_
  refine own_by (T' := s₁) (g' := (mkF m 7 #[.val (.ref b), .val (.int (0 : Int32)), .val (.ref d), .val (.int (0 : Int32)), .val (.int (1 : Int32)), .val (.int (0 : Int32)), .unset] [(.int (1 : Int32)), (.int (0 : Int32))])) (fun _ kt_ => XS.iload X0.here hx rfl (hb hby own_d6_5) rfl kt_) ?_
  refine own_by (T' := s₁) (g' := (mkF m 10 #[.val (.ref b), .val (.int (0 : Int32)), .val (.ref d), .val (.int (0 : Int32)), .val (.int (1 : Int32)), .val (.int (0 : Int32)), .unset] [])) (fun _ kt_ => XS.icmpNo X0.here hx rfl (hb hby own_d6_7) rfl (XT.ii_ge_f (by decide)) kt_) ?_
  refine own_by (T' := s₁) (g' := (mkF m 11 #[.val (.ref b), .val (.int (0 : Int32)), .val (.ref d), .val (.int (0 : Int32)), .val (.int (1 : Int32)), .val (.int (0 : Int32)), .unset] [(.ref b)])) (fun _ kt_ => XS.aloadN X0.here hx rfl (hb hby own_d6_10) rfl rfl kt_) ?_
  refine own_by (T' := s₁) (g' := (mkF m 12 #[.val (.ref b), .val (.int (0 : Int32)), .val (.ref d), .val (.int (0 : Int32)), .val (.int (1 : Int32)), .val (.int (0 : Int32)), .unset] [(.int (0 : Int32)), (.ref b)])) (fun _ kt_ => XS.iloadN X0.here hx rfl (hb hby own_d6_11) rfl kt_) ?_
  obtain ⟨cl2, Ar2, q2, S2, M2, H2, G2⟩ := id Vb
  have hin2 : ¬ ((0 : Int32) < 0 ∨ cl2.slots.size ≤ ((0 : Int32)).toNatClampNeg) := inb_of S2 ⟨by decide, by decide⟩
  have hat2 : cl2.slots[((0 : Int32)).toNatClampNeg]? = some (.int c0) := H2.at hin2 rfl
  refine own_by (T' := s₁) (g' := (mkF m 13 #[.val (.ref b), .val (.int (0 : Int32)), .val (.ref d), .val (.int (0 : Int32)), .val (.int (1 : Int32)), .val (.int (0 : Int32)), .unset] [(.int c0)])) (fun _ kt_ => X0.caload hx (j := (0 : Int32)) (v := (.int c0)) (by rw [e0]; exact Ar2.1) (State.isArrayOf_alike hZ.alike Ar2.2.1) Ar2.2.2 hin2 hat2 (g := (mkF m 12 #[.val (.ref b), .val (.int (0 : Int32)), .val (.ref d), .val (.int (0 : Int32)), .val (.int (1 : Int32)), .val (.int (0 : Int32)), .unset] [(.int (0 : Int32)), (.ref b)])) rfl rfl (hb hby own_d6_12) _ kt_) ?_
  refine own_by (T' := s₁) (g' := (mkF m 15 #[.val (.ref b), .val (.int (0 : Int32)), .val (.ref d), .val (.int (0 : Int32)), .val (.int (1 : Int32)), .val (.int (0 : Int32)), .val (.int c0)] [])) (fun _ kt_ => XS.istore X0.here hx rfl (hb hby own_d6_13) rfl (l' := #[.val (.ref b), .val (.int (0 : Int32)), .val (.ref d), .val (.int (0 : Int32)), .val (.int (1 : Int32)), .val (.int (0 : Int32)), .val (.int c0)]) rfl kt_) ?_
  refine own_by (T' := s₁) (g' := (mkF m 17 #[.val (.ref b), .val (.int (0 : Int32)), .val (.ref d), .val (.int (0 : Int32)), .val (.int (1 : Int32)), .val (.int (0 : Int32)), .val (.int c0)] [(.int c0)])) (fun _ kt_ => XS.iload X0.here hx rfl (hb hby own_d6_15) rfl kt_) ?_
  refine own_by (T' := s₁) (g' := (mkF m 20 #[.val (.ref b), .val (.int (0 : Int32)), .val (.ref d), .val (.int (0 : Int32)), .val (.int (1 : Int32)), .val (.int (0 : Int32)), .val (.int c0)] [(.int (255 : Int32)), (.int c0)])) (fun _ kt_ => XS.sipush X0.here hx rfl (hb hby own_d6_17) kt_) ?_
  refine own_by (T' := s₁) (g' := (mkF m 26 #[.val (.ref b), .val (.int (0 : Int32)), .val (.ref d), .val (.int (0 : Int32)), .val (.int (1 : Int32)), .val (.int (0 : Int32)), .val (.int c0)] [])) (fun _ kt_ => XS.icmpYes X0.here hx rfl (pc0 := 20) (pc' := 26) rfl (hb hby own_d6_20) rfl (XT.ii_le_t hp0) (by decide) (by decide) kt_) ?_
  refine own_by (T' := s₁) (g' := (mkF m 27 #[.val (.ref b), .val (.int (0 : Int32)), .val (.ref d), .val (.int (0 : Int32)), .val (.int (1 : Int32)), .val (.int (0 : Int32)), .val (.int c0)] [(.ref d)])) (fun _ kt_ => XS.aloadN X0.here hx rfl (hb hby own_d6_26) rfl rfl kt_) ?_
  refine own_by (T' := s₁) (g' := (mkF m 28 #[.val (.ref b), .val (.int (0 : Int32)), .val (.ref d), .val (.int (0 : Int32)), .val (.int (1 : Int32)), .val (.int (0 : Int32)), .val (.int c0)] [(.int (0 : Int32)), (.ref d)])) (fun _ kt_ => XS.iloadN X0.here hx rfl (hb hby own_d6_27) rfl kt_) ?_
  refine own_by (T' := s₁) (g' := (mkF m 30 #[.val (.ref b), .val (.int (0 : Int32)), .val (.ref d), .val (.int (0 : Int32)), .val (.int (1 : Int32)), .val (.int (0 : Int32)), .val (.int c0)] [(.int c0), (.int (0 : Int32)), (.ref d)])) (fun _ kt_ => XS.iload X0.here hx rfl (hb hby own_d6_28) rfl kt_) ?_
  refine own_by (T' := s₁) (g' := (mkF m 31 #[.val (.ref b), .val (.int (0 : Int32)), .val (.ref d), .val (.int (0 : Int32)), .val (.int (1 : Int32)), .val (.int (0 : Int32)), .val (.int c0)] [(.int c0.toInt8.toInt32), (.int (0 : Int32)), (.ref d)])) (fun _ kt_ => XS.i2b X0.here hx rfl (hb hby own_d6_30) rfl kt_) ?_
  obtain ⟨cl3, Ar3, q3, S3, M3, H3, G3⟩ := id Vd
  have hin3 : ¬ ((0 : Int32) < 0 ∨ cl3.slots.size ≤ ((0 : Int32)).toNatClampNeg) := inb_of S3 ⟨by decide, by decide⟩
  obtain ⟨T3, h3, X3, e3, W3, st3⟩ := stB X0 hx hZ e0 Ar3 (j := (0 : Int32)) hin3 (g := (mkF m 31 #[.val (.ref b), .val (.int (0 : Int32)), .val (.ref d), .val (.int (0 : Int32)), .val (.int (1 : Int32)), .val (.int (0 : Int32)), .val (.int c0)] [(.int c0.toInt8.toInt32), (.int (0 : Int32)), (.ref d)])) rfl rfl (hb hby own_d6_31)
  rw [show nar .byte c0.toInt8.toInt32 = c0.toInt8.toInt32 from own_narB _] at W3
  have K4 : Keep h0 h3 [d] := Keep.of_wr W3
  have zzK4 : h0.size ≤ h3.size := K4.1
  have oo5 : Old Z n0 h3 := O0.keep K4 (allS (by omega : n0 ≤ d) all0)
  have kt6 : Keep h0 h3 [d] := KT0.trans K4 (allS (Or.inl (List.mem_of_getElem? (i := 0) rfl)) all0)
  have f7 : Arv Z h3 d kB .byte (1 : Int32) [(.int c0.toInt8.toInt32)] (.int (0 : Int32)) := Arv.set Ar3 q3 S3 M3 H3 G3 (fits_nar_byte _) W3 0 rfl (Nat.le_of_ble_eq_true rfl)
  have N8 := Fr.snoc X3 N0 (by omega : n0 ≤ d)
  refine own_by (T' := T3) (g' := (mkF m 32 #[.val (.ref b), .val (.int (0 : Int32)), .val (.ref d), .val (.int (0 : Int32)), .val (.int (1 : Int32)), .val (.int (0 : Int32)), .val (.int c0)] [])) st3 ?_
  refine own_by (T' := T3) (g' := (mkF m 35 #[.val (.ref b), .val (.int ((0 : Int32) + (1 : Int32))), .val (.ref d), .val (.int (0 : Int32)), .val (.int (1 : Int32)), .val (.int (0 : Int32)), .val (.int c0)] [])) (fun _ kt_ => XS.iinc X3.here hx rfl (hb hby own_d6_32) rfl (l' := #[.val (.ref b), .val (.int ((0 : Int32) + (1 : Int32))), .val (.ref d), .val (.int (0 : Int32)), .val (.int (1 : Int32)), .val (.int (0 : Int32)), .val (.int c0)]) rfl kt_) ?_
  rw [show ((0 : Int32) + (1 : Int32)) = (1 : Int32) from by decide]
  refine own_by (T' := T3) (g' := (mkF m 38 #[.val (.ref b), .val (.int (1 : Int32)), .val (.ref d), .val (.int ((0 : Int32) + (1 : Int32))), .val (.int (1 : Int32)), .val (.int (0 : Int32)), .val (.int c0)] [])) (fun _ kt_ => XS.iinc X3.here hx rfl (hb hby own_d6_35) rfl (l' := #[.val (.ref b), .val (.int (1 : Int32)), .val (.ref d), .val (.int ((0 : Int32) + (1 : Int32))), .val (.int (1 : Int32)), .val (.int (0 : Int32)), .val (.int c0)]) rfl kt_) ?_
  rw [show ((0 : Int32) + (1 : Int32)) = (1 : Int32) from by decide]
  refine own_by (T' := T3) (g' := (mkF m 41 #[.val (.ref b), .val (.int (1 : Int32)), .val (.ref d), .val (.int (1 : Int32)), .val (.int (1 : Int32)), .val (.int ((0 : Int32) + (1 : Int32))), .val (.int c0)] [])) (fun _ kt_ => XS.iinc X3.here hx rfl (hb hby own_d6_38) rfl (l' := #[.val (.ref b), .val (.int (1 : Int32)), .val (.ref d), .val (.int (1 : Int32)), .val (.int (1 : Int32)), .val (.int ((0 : Int32) + (1 : Int32))), .val (.int c0)]) rfl kt_) ?_
  rw [show ((0 : Int32) + (1 : Int32)) = (1 : Int32) from by decide]
  refine own_by (T' := T3) (g' := (mkF m 3 #[.val (.ref b), .val (.int (1 : Int32)), .val (.ref d), .val (.int (1 : Int32)), .val (.int (1 : Int32)), .val (.int (1 : Int32)), .val (.int c0)] [])) (fun _ kt_ => XS.goto X3.here hx rfl (pc0 := 41) (pc' := 3) rfl (hb hby own_d6_41) (by decide) (by decide) kt_) ?_
  refine own_by (T' := T3) (g' := (mkF m 5 #[.val (.ref b), .val (.int (1 : Int32)), .val (.ref d), .val (.int (1 : Int32)), .val (.int (1 : Int32)), .val (.int (1 : Int32)), .val (.int c0)] [(.int (1 : Int32))])) (fun _ kt_ => XS.iload X3.here hx rfl (hb hby own_d6_3) rfl kt_) ?_
  refine own_by (T' := T3) (g' := (mkF m 7 #[.val (.ref b), .val (.int (1 : Int32)), .val (.ref d), .val (.int (1 : Int32)), .val (.int (1 : Int32)), .val (.int (1 : Int32)), .val (.int c0)] [(.int (1 : Int32)), (.int (1 : Int32))])) (fun _ kt_ => XS.iload X3.here hx rfl (hb hby own_d6_5) rfl kt_) ?_
  refine own_by (T' := T3) (g' := (mkF m 44 #[.val (.ref b), .val (.int (1 : Int32)), .val (.ref d), .val (.int (1 : Int32)), .val (.int (1 : Int32)), .val (.int (1 : Int32)), .val (.int c0)] [])) (fun _ kt_ => XS.icmpYes X3.here hx rfl (pc0 := 7) (pc' := 44) rfl (hb hby own_d6_7) rfl (XT.ii_ge_t (by decide)) (by decide) (by decide) kt_) ?_
  refine own_by (T' := T3) (g' := (mkF m 46 #[.val (.ref b), .val (.int (1 : Int32)), .val (.ref d), .val (.int (1 : Int32)), .val (.int (1 : Int32)), .val (.int (1 : Int32)), .val (.int c0)] [(.int (1 : Int32))])) (fun _ kt_ => XS.iload X3.here hx rfl (hb hby own_d6_44) rfl kt_) ?_
  obtain ⟨fs9, hr9, hrun9, hended9, hW9, hsame9⟩ := X3.leave (v := some (.int (1 : Int32))) (fun h => by rw [Bd.returns] at h; cases h)
  refine ⟨_, _, retOut X3 hx (t := .int) Bd.returns rfl (Or.inl ⟨rfl, Or.inl rfl, _, rfl⟩) (hb hby own_d6_46) hr9, hrun9, hended9, _, _, rfl, ?_, ⟨_, rfl⟩, hW9, hsame9.mono (by decide) (by decide)⟩
  show Q_rmC5_1 Z zC b d kC kB c0 h0 n0 _ T3.heap _
  rw [e3]
  exact ⟨rfl, N8, kt6, f7⟩
theorem own_pd_0 : parseMethodDescriptor "([CI[BII)I" = some ⟨[(.array .char), .int, (.array .byte), .int, .int], some .int⟩ := by decide +kernel
theorem own_d5_0 : decode jdk_52_method_16_code 0 = .ok (.iload_n 2, 1) := by decide +kernel
theorem own_d5_1 : decode jdk_52_method_16_code 1 = .ok (.newarray .byte, 2) := by decide +kernel
theorem own_d5_3 : decode jdk_52_method_16_code 3 = .ok (.astore_n 3, 1) := by decide +kernel
theorem own_d5_4 : decode jdk_52_method_16_code 4 = .ok (.aload_n 0, 1) := by decide +kernel
theorem own_d5_5 : decode jdk_52_method_16_code 5 = .ok (.iload_n 1, 1) := by decide +kernel
theorem own_d5_6 : decode jdk_52_method_16_code 6 = .ok (.aload_n 3, 1) := by decide +kernel
theorem own_d5_7 : decode jdk_52_method_16_code 7 = .ok (.iconst 0, 1) := by decide +kernel
theorem own_d5_8 : decode jdk_52_method_16_code 8 = .ok (.iload_n 2, 1) := by decide +kernel
theorem own_d5_9 : decode jdk_52_method_16_code 9 = .ok (.invokestatic 115, 3) := by decide +kernel
theorem own_d5_12 : decode jdk_52_method_16_code 12 = .ok (.istore 4, 2) := by decide +kernel
theorem own_d5_14 : decode jdk_52_method_16_code 14 = .ok (.iload 4, 2) := by decide +kernel
theorem own_d5_16 : decode jdk_52_method_16_code 16 = .ok (.iload_n 2, 1) := by decide +kernel
theorem own_d5_17 : decode jdk_52_method_16_code 17 = .ok (.if_icmp .eq 40, 3) := by decide +kernel
theorem own_d5_57 : decode jdk_52_method_16_code 57 = .ok (.aload_n 3, 1) := by decide +kernel
theorem own_d5_58 : decode jdk_52_method_16_code 58 = .ok (.areturn, 1) := by decide +kernel
theorem own_ef_rmC3_1 (m : MethodId) (x0 : Addr) (x1 : Int32) (x2 : Int32) : entryFrame m #[(.ref x0), (.int x1), (.int x2)] 6 = mkF m 0 #[.val (.ref x0), .val (.int x1), .val (.int x2), .unset, .unset, .unset] [] := by first | (simp [entryFrame, mkF, argsToLocals, Value.category]; done) | rfl
def Q_rmC3_1 (Z : State) (zC : Int32) (b : Addr) (kC : ClassId) (c0 : Int32) (h0 : Heap) (n0 : Nat) (vv_ : Option Value) (hh_ : Heap) (LL_ : List Loc) : Prop := ∃ d : Addr, ∃ kB : ClassId, vv_ = some (.ref d) ∧ Fr n0 LL_ ∧ Keep h0 hh_ [] ∧ h0.size ≤ d ∧ Arv Z hh_ d kB .byte (1 : Int32) [(.int c0.toInt8.toInt32)] (.int (0 : Int32))
set_option maxRecDepth 65536 in
set_option maxHeartbeats 40000000 in
theorem rmC3_1 (l : Launch) (Z : State) (a0 : Array Value) (hw : ∀ d ∈ tables_1, d.before a0 Z = true) (ws : List Jvm.Cond) (zC : Int32) (GS : Glob Z zC) (b : Addr) (kC : ClassId) (c0 : Int32) (h0 : Heap) (n0 : Nat) (Z0 : n0 ≤ h0.size) (O0 : Old Z n0 h0) (Vb : Arv Z h0 b kC .char (1 : Int32) [(.int c0)] (.int (0 : Int32))) (hp0 : ¬ (255 : Int32) < c0) :
    MetFree l (⟨"java/lang/StringUTF16", "compress", "([CII)[B"⟩ : MethodName) (head1 (Jvm.Cond.code (⟨"java/lang/StringUTF16", "compress", "([CII)[B"⟩ : MethodName) jdk_52_method_16_code 6 (some (.array .byte)) :: ws) ({ frames := 1, cells := 1, slots := 1, locals := 18 } : Room)) (fun aa_ UU_ => aa_ = #[(.ref b), (.int (0 : Int32)), (.int (1 : Int32))] ∧ Z.Warmed39 UU_.vm ∧ UU_.heap = h0) (fun _ _ _ _ _ => True) (fun _ UU_ oo_ UV_ => ∃ vv_ LL_, oo_ = .returned vv_ ∧ Q_rmC3_1 Z zC b kC c0 h0 n0 vv_ UV_.heap LL_ ∧ FrameEnd UU_ oo_ UV_ LL_ ({ frames := 1, cells := 1, slots := 1, locals := 18 } : Room).cells ({ frames := 1, cells := 1, slots := 1, locals := 18 } : Room).slots) := by
  refine MetFree.of_bodySF (plainFor_of_name own_pn_java_lang_StringUTF16) hisR ?_
  intro p e s m args below meth c s₁ Bd hml0 hP hK
  obtain ⟨rfl, hZ, hh⟩ := hP
  have hx := Bd.exec
  have hby := Bd.bytes
  have hml : c.maxLocals = 6 := hml0
  have hown : s.vm.findClass "java/lang/StringUTF16" = some m.cls := findClass_of_methodNamed Bd.named
  have hnm := (name_of_methodNamed Bd.named Bd.method).1
  have X0 : Stand p l e ({ frames := 1, cells := 1, slots := 1, locals := 18 } : Room) s m #[(.ref b), (.int (0 : Int32)), (.int (1 : Int32))] below meth c s₁ [] 0 0 := Stand.of_body Bd
  have e0 : s₁.heap = h0 := by rw [← hh, Bd.state]; rfl
  have N0 := Fr.nil n0
  have hn0 : Z.heap.size = n0 := O0.1
  have KT0 : Keep h0 h0 [] := Keep.refl _ _
  refine own_enter (Φ := fun oo_ UV_ => ∃ vv_ LL_, oo_ = .returned vv_ ∧ Q_rmC3_1 Z zC b kC c0 h0 n0 vv_ UV_.heap LL_ ∧ FrameEnd s oo_ UV_ LL_ ({ frames := 1, cells := 1, slots := 1, locals := 18 } : Room).cells ({ frames := 1, cells := 1, slots := 1, locals := 18 } : Room).slots) (own_ef_rmC3_1 m b (0 : Int32) (1 : Int32)) ?_
  refine own_by (T' := s₁) (g' := (mkF m 1 #[.val (.ref b), .val (.int (0 : Int32)), .val (.int (1 : Int32)), .unset, .unset, .unset] [(.int (1 : Int32))])) (fun _ kt_ => XS.iloadN X0.here hx rfl (hb hby own_d5_0) rfl kt_) ?_
  obtain ⟨T1, h1, k1, X1, e1, E1, A1, st1⟩ := newP X0 hx hZ (hw _ (List.mem_of_getElem? (i := 23) rfl)) e0 (g := (mkF m 1 #[.val (.ref b), .val (.int (0 : Int32)), .val (.int (1 : Int32)), .unset, .unset, .unset] [(.int (1 : Int32))])) rfl (hb hby own_d5_1) rfl (by decide) (cap := 1) (by decide) (by decide) (by decide) (by decide)
  obtain ⟨b1, g1⟩ : ∃ z, z = h0.size := ⟨_, rfl⟩
  rw [← g1] at A1 st1
  have K2 : Keep h0 h1 [] := own_kext E1
  have zzK2 : h0.size ≤ h1.size := K2.1
  have oo3 : Old Z n0 h1 := O0.keep K2 all0
  have kt4 : Keep h0 h1 [] := KT0.trans K2 all0
  have lab1 : b1 < h1.size := A1.lt
  have f5 : Arv Z h1 b1 k1 .byte (1 : Int32) [(.int (0 : Int32))] (.int (0 : Int32)) := (Arv.new A1 (by decide)).pad (pad_rep [] (.int (0 : Int32)) 1)
  refine own_by (T' := T1) (g' := (mkF m 3 #[.val (.ref b), .val (.int (0 : Int32)), .val (.int (1 : Int32)), .unset, .unset, .unset] [(.ref b1)])) st1 ?_
  refine own_by (T' := T1) (g' := (mkF m 4 #[.val (.ref b), .val (.int (0 : Int32)), .val (.int (1 : Int32)), .val (.ref b1), .unset, .unset] [])) (fun _ kt_ => XS.astoreN X1.here hx rfl (hb hby own_d5_3) rfl rfl (l' := #[.val (.ref b), .val (.int (0 : Int32)), .val (.int (1 : Int32)), .val (.ref b1), .unset, .unset]) rfl kt_) ?_
  refine own_by (T' := T1) (g' := (mkF m 5 #[.val (.ref b), .val (.int (0 : Int32)), .val (.int (1 : Int32)), .val (.ref b1), .unset, .unset] [(.ref b)])) (fun _ kt_ => XS.aloadN X1.here hx rfl (hb hby own_d5_4) rfl rfl kt_) ?_
  refine own_by (T' := T1) (g' := (mkF m 6 #[.val (.ref b), .val (.int (0 : Int32)), .val (.int (1 : Int32)), .val (.ref b1), .unset, .unset] [(.int (0 : Int32)), (.ref b)])) (fun _ kt_ => XS.iloadN X1.here hx rfl (hb hby own_d5_5) rfl kt_) ?_
  refine own_by (T' := T1) (g' := (mkF m 7 #[.val (.ref b), .val (.int (0 : Int32)), .val (.int (1 : Int32)), .val (.ref b1), .unset, .unset] [(.ref b1), (.int (0 : Int32)), (.ref b)])) (fun _ kt_ => XS.aloadN X1.here hx rfl (hb hby own_d5_6) rfl rfl kt_) ?_
  refine own_by (T' := T1) (g' := (mkF m 8 #[.val (.ref b), .val (.int (0 : Int32)), .val (.int (1 : Int32)), .val (.ref b1), .unset, .unset] [(.int (0 : Int32)), (.ref b1), (.int (0 : Int32)), (.ref b)])) (fun _ kt_ => XS.iconst X1.here hx rfl (hb hby own_d5_7) kt_) ?_
  refine own_by (T' := T1) (g' := (mkF m 9 #[.val (.ref b), .val (.int (0 : Int32)), .val (.int (1 : Int32)), .val (.ref b1), .unset, .unset] [(.int (1 : Int32)), (.int (0 : Int32)), (.ref b1), (.int (0 : Int32)), (.ref b)])) (fun _ kt_ => XS.iloadN X1.here hx rfl (hb hby own_d5_8) rfl kt_) ?_
  have f6 : Arv Z h1 b kC .char (1 : Int32) [(.int c0)] (.int (0 : Int32)) := (Vb.keep K2 nin0)
  have la7 : @LT.lt Nat instLTNat b h0.size := Vb.lt
  have ne8 : @Ne Nat b b1 := by omega
  obtain ⟨_, _, ⟨T9, L9, k9, n9⟩, -, X9, ⟨Lc9, hQ9, l9, y9, z9⟩, st9⟩ := Jvm.LawKit.callS X1 hx (y := (⟨"java/lang/StringUTF16", "compress", "([CI[BII)I"⟩ : MethodName)) hown (mvT hZ (hw _ (List.mem_of_getElem? (i := 24) rfl))) (mvT hZ (hw _ (List.mem_of_getElem? (i := 25) rfl))) (mvT hZ (hw _ (List.mem_of_getElem? (i := 21) rfl))) (mvT hZ (hw _ (List.mem_of_getElem? (i := 26) rfl))) (by decide) (backOf (W := 0) (rmC5_1 l Z a0 hw [] zC GS b b1 kC k1 c0 h1 n0 (by omega) oo3 f6 f5 (by omega) ne8 hp0) hZ (hw _ (List.mem_of_getElem? (i := 26) rfl)) (hw _ (List.mem_of_getElem? (i := 21) rfl)) (by decide) (by decide)) (g := (mkF m 9 #[.val (.ref b), .val (.int (0 : Int32)), .val (.int (1 : Int32)), .val (.ref b1), .unset, .unset] [(.int (1 : Int32)), (.int (0 : Int32)), (.ref b1), (.int (0 : Int32)), (.ref b)])) rfl (by rw [hml]; rfl) (argsL := [(.ref b), (.int (0 : Int32)), (.ref b1), (.int (0 : Int32)), (.int (1 : Int32))]) (rest := []) (lenOf own_pd_0 rfl) rfl (by show 2 * 0 + _ ≤ _; exact Nat.le_of_eq rfl) (hb hby own_d5_9) (fun _ _ => ⟨rfl, e1, (by decide : 1 + 0 ≤ _), (by decide : 1 + 0 ≤ _)⟩)
  dsimp only [Pt.U, Pt.locs, Pt.cells, Pt.slots] at X9 l9 y9 z9 st9 hQ9
  subst l9 y9 z9
  obtain ⟨rfl, N9q, K9, p9_0⟩ := hQ9
  have N10 := Fr.app N0 N9q
  have zzK9 : h1.size ≤ T9.heap.size := K9.1
  have oo11 : Old Z n0 T9.heap := oo3.keep K9 (allS (by omega : n0 ≤ b1) all0)
  have kt12 : Keep h0 T9.heap [] := kt4.trans K9 (allS (Or.inr (by omega : h0.size ≤ b1)) all0)
  refine own_by (T' := T9) (g' := (mkF m 12 #[.val (.ref b), .val (.int (0 : Int32)), .val (.int (1 : Int32)), .val (.ref b1), .unset, .unset] [(.int (1 : Int32))])) st9 ?_
  refine own_by (T' := T9) (g' := (mkF m 14 #[.val (.ref b), .val (.int (0 : Int32)), .val (.int (1 : Int32)), .val (.ref b1), .val (.int (1 : Int32)), .unset] [])) (fun _ kt_ => XS.istore X9.here hx rfl (hb hby own_d5_12) rfl (l' := #[.val (.ref b), .val (.int (0 : Int32)), .val (.int (1 : Int32)), .val (.ref b1), .val (.int (1 : Int32)), .unset]) rfl kt_) ?_
  refine own_by (T' := T9) (g' := (mkF m 16 #[.val (.ref b), .val (.int (0 : Int32)), .val (.int (1 : Int32)), .val (.ref b1), .val (.int (1 : Int32)), .unset] [(.int (1 : Int32))])) (fun _ kt_ => XS.iload X9.here hx rfl (hb hby own_d5_14) rfl kt_) ?_
  refine own_by (T' := T9) (g' := (mkF m 17 #[.val (.ref b), .val (.int (0 : Int32)), .val (.int (1 : Int32)), .val (.ref b1), .val (.int (1 : Int32)), .unset] [(.int (1 : Int32)), (.int (1 : Int32))])) (fun _ kt_ => XS.iloadN X9.here hx rfl (hb hby own_d5_16) rfl kt_) ?_
  refine own_by (T' := T9) (g' := (mkF m 57 #[.val (.ref b), .val (.int (0 : Int32)), .val (.int (1 : Int32)), .val (.ref b1), .val (.int (1 : Int32)), .unset] [])) (fun _ kt_ => XS.icmpYes X9.here hx rfl (pc0 := 17) (pc' := 57) rfl (hb hby own_d5_17) rfl (XT.ii_eq_t (by decide)) (by decide) (by decide) kt_) ?_
  refine own_by (T' := T9) (g' := (mkF m 58 #[.val (.ref b), .val (.int (0 : Int32)), .val (.int (1 : Int32)), .val (.ref b1), .val (.int (1 : Int32)), .unset] [(.ref b1)])) (fun _ kt_ => XS.aloadN X9.here hx rfl (hb hby own_d5_57) rfl rfl kt_) ?_
  obtain ⟨fs13, hr13, hrun13, hended13, hW13, hsame13⟩ := X9.leave (v := some (.ref b1)) (fun h => by rw [Bd.returns] at h; cases h)
  refine ⟨_, _, retOut X9 hx (t := (.array .byte)) Bd.returns rfl (Or.inr (Or.inr (Or.inr (Or.inr ⟨rfl, rfl, rfl⟩)))) (hb hby own_d5_58) hr13, hrun13, hended13, _, _, rfl, ?_, ⟨_, rfl⟩, hW13, hsame13.mono (by decide) (by decide)⟩
  show Q_rmC3_1 Z zC b kC c0 h0 n0 _ T9.heap _
  exact ⟨b1, k1, rfl, N10, kt12, (by omega), p9_0⟩
theorem own_d7_0 : decode jdk_52_method_15_code 0 = .ok (.iload_n 1, 1) := by decide +kernel
theorem own_d7_1 : decode jdk_52_method_15_code 1 = .ok (.aload_n 0, 1) := by decide +kernel
theorem own_d7_2 : decode jdk_52_method_15_code 2 = .ok (.arraylength, 1) := by decide +kernel
theorem own_d7_3 : decode jdk_52_method_15_code 3 = .ok (.isub, 1) := by decide +kernel
theorem own_d7_4 : decode jdk_52_method_15_code 4 = .ok (.bipush 31, 2) := by decide +kernel
theorem own_d7_6 : decode jdk_52_method_15_code 6 = .ok (.iushr, 1) := by decide +kernel
theorem own_d7_7 : decode jdk_52_method_15_code 7 = .ok (.i2b, 1) := by decide +kernel
theorem own_d7_8 : decode jdk_52_method_15_code 8 = .ok (.ireturn, 1) := by decide +kernel
theorem own_ef_rmCod_1 (m : MethodId) (x0 : Addr) (x1 : Int32) : entryFrame m #[(.ref x0), (.int x1)] 2 = mkF m 0 #[.val (.ref x0), .val (.int x1)] [] := by first | (simp [entryFrame, mkF, argsToLocals, Value.category]; done) | rfl
def Q_rmCod_1 (Z : State) (zC : Int32) (d : Addr) (kB : ClassId) (b0 : Int32) (h0 : Heap) (n0 : Nat) (vv_ : Option Value) (hh_ : Heap) (LL_ : List Loc) : Prop := vv_ = some (.int (0 : Int32)) ∧ Fr n0 LL_ ∧ hh_ = h0
set_option maxRecDepth 65536 in
set_option maxHeartbeats 40000000 in
theorem rmCod_1 (l : Launch) (Z : State) (a0 : Array Value) (hw : ∀ d ∈ tables_1, d.before a0 Z = true) (ws : List Jvm.Cond) (zC : Int32) (GS : Glob Z zC) (d : Addr) (kB : ClassId) (b0 : Int32) (h0 : Heap) (n0 : Nat) (Z0 : n0 ≤ h0.size) (O0 : Old Z n0 h0) (Vd : Arv Z h0 d kB .byte (1 : Int32) [(.int b0)] (.int (0 : Int32))) :
    MetFree l (⟨"java/lang/StringUTF16", "coderFromArrayLen", "([BI)B"⟩ : MethodName) (head1 (Jvm.Cond.code (⟨"java/lang/StringUTF16", "coderFromArrayLen", "([BI)B"⟩ : MethodName) jdk_52_method_15_code 2 (some .byte) :: ws) ({ frames := 0, cells := 0, slots := 0, locals := 0 } : Room)) (fun aa_ UU_ => aa_ = #[(.ref d), (.int (1 : Int32))] ∧ Z.Warmed39 UU_.vm ∧ UU_.heap = h0) (fun _ _ _ _ _ => True) (fun _ UU_ oo_ UV_ => ∃ vv_ LL_, oo_ = .returned vv_ ∧ Q_rmCod_1 Z zC d kB b0 h0 n0 vv_ UV_.heap LL_ ∧ FrameEnd UU_ oo_ UV_ LL_ ({ frames := 0, cells := 0, slots := 0, locals := 0 } : Room).cells ({ frames := 0, cells := 0, slots := 0, locals := 0 } : Room).slots) := by
  refine MetFree.of_bodySF (plainFor_of_name own_pn_java_lang_StringUTF16) hisR ?_
  intro p e s m args below meth c s₁ Bd hml0 hP hK
  obtain ⟨rfl, hZ, hh⟩ := hP
  have hx := Bd.exec
  have hby := Bd.bytes
  have hml : c.maxLocals = 2 := hml0
  have hown : s.vm.findClass "java/lang/StringUTF16" = some m.cls := findClass_of_methodNamed Bd.named
  have hnm := (name_of_methodNamed Bd.named Bd.method).1
  have X0 : Stand p l e ({ frames := 0, cells := 0, slots := 0, locals := 0 } : Room) s m #[(.ref d), (.int (1 : Int32))] below meth c s₁ [] 0 0 := Stand.of_body Bd
  have e0 : s₁.heap = h0 := by rw [← hh, Bd.state]; rfl
  have N0 := Fr.nil n0
  have hn0 : Z.heap.size = n0 := O0.1
  have KT0 : Keep h0 h0 [] := Keep.refl _ _
  refine own_enter (Φ := fun oo_ UV_ => ∃ vv_ LL_, oo_ = .returned vv_ ∧ Q_rmCod_1 Z zC d kB b0 h0 n0 vv_ UV_.heap LL_ ∧ FrameEnd s oo_ UV_ LL_ ({ frames := 0, cells := 0, slots := 0, locals := 0 } : Room).cells ({ frames := 0, cells := 0, slots := 0, locals := 0 } : Room).slots) (own_ef_rmCod_1 m d (1 : Int32)) ?_
  refine own_by (T' := s₁) (g' := (mkF m 1 #[.val (.ref d), .val (.int (1 : Int32))] [(.int (1 : Int32))])) (fun _ kt_ => XS.iloadN X0.here hx rfl (hb hby own_d7_0) rfl kt_) ?_
  refine own_by (T' := s₁) (g' := (mkF m 2 #[.val (.ref d), .val (.int (1 : Int32))] [(.ref d), (.int (1 : Int32))])) (fun _ kt_ => XS.aloadN X0.here hx rfl (hb hby own_d7_1) rfl rfl kt_) ?_
  obtain ⟨cl1, Ar1, q1, S1, M1, H1, G1⟩ := id Vd
  refine own_by (T' := s₁) (g' := (mkF m 3 #[.val (.ref d), .val (.int (1 : Int32))] [(.int (1 : Int32)), (.int (1 : Int32))])) (fun _ kt_ => X0.arraylength hx (by rw [e0]; exact Ar1.1) (State.isArrayOf_alike hZ.alike Ar1.2.1) (g := (mkF m 2 #[.val (.ref d), .val (.int (1 : Int32))] [(.ref d), (.int (1 : Int32))])) rfl rfl (hb hby own_d7_2) _ (by rw [len_of S1 M1]; exact kt_)) ?_
  refine own_by (T' := s₁) (g' := (mkF m 4 #[.val (.ref d), .val (.int (1 : Int32))] [(.int ((1 : Int32) - (1 : Int32)))])) (fun _ kt_ => XS.isub X0.here hx rfl (hb hby own_d7_3) rfl kt_) ?_
  rw [show ((1 : Int32) - (1 : Int32)) = (0 : Int32) from by decide]
  refine own_by (T' := s₁) (g' := (mkF m 6 #[.val (.ref d), .val (.int (1 : Int32))] [(.int (31 : Int32)), (.int (0 : Int32))])) (fun _ kt_ => XS.bipush X0.here hx rfl (hb hby own_d7_4) kt_) ?_
  refine own_by (T' := s₁) (g' := (mkF m 7 #[.val (.ref d), .val (.int (1 : Int32))] [(.int (((0 : Int32).toUInt32 >>> ((31 : Int32) &&& 31).toUInt32).toInt32))])) (fun _ kt_ => XS.iushr X0.here hx rfl (hb hby own_d7_6) rfl kt_) ?_
  refine own_by (T' := s₁) (g' := (mkF m 8 #[.val (.ref d), .val (.int (1 : Int32))] [(.int (((0 : Int32).toUInt32 >>> ((31 : Int32) &&& 31).toUInt32).toInt32).toInt8.toInt32)])) (fun _ kt_ => XS.i2b X0.here hx rfl (hb hby own_d7_7) rfl kt_) ?_
  have hn2 : nar .byte ((((0 : Int32).toUInt32 >>> ((31 : Int32) &&& 31).toUInt32).toInt32).toInt8.toInt32) = (((0 : Int32).toUInt32 >>> ((31 : Int32) &&& 31).toUInt32).toInt32).toInt8.toInt32 := by decide
  have hr3 : (((0 : Int32).toUInt32 >>> ((31 : Int32) &&& 31).toUInt32).toInt32).toInt8.toInt32 = (0 : Int32) := by decide
  obtain ⟨fs4, hr4, hrun4, hended4, hW4, hsame4⟩ := X0.leave (v := some (.int (nar .byte ((((0 : Int32).toUInt32 >>> ((31 : Int32) &&& 31).toUInt32).toInt32).toInt8.toInt32)))) (fun h => by rw [Bd.returns] at h; cases h)
  refine ⟨_, _, retN X0 hx (t := .byte) Bd.returns (by simp) (hb hby own_d7_8) hr4, hrun4, hended4, _, _, rfl, ?_, ⟨_, rfl⟩, hW4, hsame4.mono (by decide) (by decide)⟩
  show Q_rmCod_1 Z zC d kB b0 h0 n0 _ s₁.heap _
  exact ⟨(congrArg (fun z => some (Value.int z)) (hn2.trans hr3)), N0, e0⟩
theorem own_pd_1 : parseMethodDescriptor "([CII)[B" = some ⟨[(.array .char), .int, .int], some (.array .byte)⟩ := by decide +kernel
theorem own_pd_2 : parseMethodDescriptor "([BI)B" = some ⟨[(.array .byte), .int], some .byte⟩ := by decide +kernel
theorem own_d3_0 : decode jdk_42_method_149_code 0 = .ok (.aload_n 0, 1) := by decide +kernel
theorem own_d3_1 : decode jdk_42_method_149_code 1 = .ok (.invokespecial 1, 3) := by decide +kernel
theorem own_d3_4 : decode jdk_42_method_149_code 4 = .ok (.iload_n 3, 1) := by decide +kernel
theorem own_d3_5 : decode jdk_42_method_149_code 5 = .ok (.ifCond .ne 22, 3) := by decide +kernel
theorem own_d3_27 : decode jdk_42_method_149_code 27 = .ok (.getstatic 38, 3) := by decide +kernel
theorem own_d3_30 : decode jdk_42_method_149_code 30 = .ok (.ifCond .eq 28, 3) := by decide +kernel
theorem own_d3_33 : decode jdk_42_method_149_code 33 = .ok (.aload_n 1, 1) := by decide +kernel
theorem own_d3_34 : decode jdk_42_method_149_code 34 = .ok (.iload_n 2, 1) := by decide +kernel
theorem own_d3_35 : decode jdk_42_method_149_code 35 = .ok (.iload_n 3, 1) := by decide +kernel
theorem own_d3_36 : decode jdk_42_method_149_code 36 = .ok (.invokestatic 177, 3) := by decide +kernel
theorem own_d3_39 : decode jdk_42_method_149_code 39 = .ok (.astore 5, 2) := by decide +kernel
theorem own_d3_41 : decode jdk_42_method_149_code 41 = .ok (.aload_n 0, 1) := by decide +kernel
theorem own_d3_42 : decode jdk_42_method_149_code 42 = .ok (.aload 5, 2) := by decide +kernel
theorem own_d3_44 : decode jdk_42_method_149_code 44 = .ok (.iload_n 3, 1) := by decide +kernel
theorem own_d3_45 : decode jdk_42_method_149_code 45 = .ok (.invokestatic 47, 3) := by decide +kernel
theorem own_d3_48 : decode jdk_42_method_149_code 48 = .ok (.putfield 15, 3) := by decide +kernel
theorem own_d3_51 : decode jdk_42_method_149_code 51 = .ok (.aload_n 0, 1) := by decide +kernel
theorem own_d3_52 : decode jdk_42_method_149_code 52 = .ok (.aload 5, 2) := by decide +kernel
theorem own_d3_54 : decode jdk_42_method_149_code 54 = .ok (.putfield 9, 3) := by decide +kernel
theorem own_d3_57 : decode jdk_42_method_149_code 57 = .ok (.return_, 1) := by decide +kernel
theorem own_pn_java_lang_String : plainName "java/lang/String" = true := by first | (simp [plainName, overriddenIn]; done) | decide +kernel
theorem own_ef_rmS4_1 (m : MethodId) (x0 : Addr) (x1 : Addr) (x2 : Int32) (x3 : Int32) : entryFrame m #[(.ref x0), (.ref x1), (.int x2), (.int x3), .null] 6 = mkF m 0 #[.val (.ref x0), .val (.ref x1), .val (.int x2), .val (.int x3), .val .null, .unset] [] := by first | (simp [entryFrame, mkF, argsToLocals, Value.category]; done) | rfl
def Q_rmS4_1 (Z : State) (zC : Int32) (x : Addr) (b : Addr) (kC : ClassId) (c0 : Int32) (h0 : Heap) (n0 : Nat) (vv_ : Option Value) (hh_ : Heap) (LL_ : List Loc) : Prop := ∃ t : Addr, ∃ kB : ClassId, vv_ = none ∧ Fr n0 LL_ ∧ Keep h0 hh_ [x] ∧ h0.size ≤ t ∧ Fld Z hh_ x "java/lang/String" "value" "[B" (.ref t) ∧ Fld Z hh_ x "java/lang/String" "coder" "B" (.int (0 : Int32)) ∧ Arv Z hh_ t kB .byte (1 : Int32) [(.int c0.toInt8.toInt32)] (.int (0 : Int32))
set_option maxRecDepth 65536 in
set_option maxHeartbeats 40000000 in
theorem rmS4_1 (l : Launch) (Z : State) (a0 : Array Value) (hw : ∀ d ∈ tables_1, d.before a0 Z = true) (ws : List Jvm.Cond) (zC : Int32) (GS : Glob Z zC) (x : Addr) (b : Addr) (kC : ClassId) (c0 : Int32) (h0 : Heap) (n0 : Nat) (Z0 : n0 ≤ h0.size) (O0 : Old Z n0 h0) (E_x : Exa Z h0 x "java/lang/String") (g_x : n0 ≤ x) (Fv : Fld Z h0 x "java/lang/String" "value" "[B" .null) (Fc : Fld Z h0 x "java/lang/String" "coder" "B" (.int (0 : Int32))) (Vb : Arv Z h0 b kC .char (1 : Int32) [(.int c0)] (.int (0 : Int32))) (hbx : b ≠ x) (hp0 : ¬ (255 : Int32) < c0) :
    MetFree l (⟨"java/lang/String", "<init>", "([CIILjava/lang/Void;)V"⟩ : MethodName) (head1 (Jvm.Cond.code (⟨"java/lang/String", "<init>", "([CIILjava/lang/Void;)V"⟩ : MethodName) jdk_42_method_149_code 6 none :: ws) ({ frames := 2, cells := 1, slots := 1, locals := 35 } : Room)) (fun aa_ UU_ => aa_ = #[(.ref x), (.ref b), (.int (0 : Int32)), (.int (1 : Int32)), .null] ∧ Z.Warmed39 UU_.vm ∧ UU_.heap = h0) (fun _ _ _ _ _ => True) (fun _ UU_ oo_ UV_ => ∃ vv_ LL_, oo_ = .returned vv_ ∧ Q_rmS4_1 Z zC x b kC c0 h0 n0 vv_ UV_.heap LL_ ∧ FrameEnd UU_ oo_ UV_ LL_ ({ frames := 2, cells := 1, slots := 1, locals := 35 } : Room).cells ({ frames := 2, cells := 1, slots := 1, locals := 35 } : Room).slots) := by
  refine MetFree.of_bodySF (plainFor_of_name own_pn_java_lang_String) hisR ?_
  intro p e s m args below meth c s₁ Bd hml0 hP hK
  obtain ⟨rfl, hZ, hh⟩ := hP
  have hx := Bd.exec
  have hby := Bd.bytes
  have hml : c.maxLocals = 6 := hml0
  have hown : s.vm.findClass "java/lang/String" = some m.cls := findClass_of_methodNamed Bd.named
  have hnm := (name_of_methodNamed Bd.named Bd.method).1
  have X0 : Stand p l e ({ frames := 2, cells := 1, slots := 1, locals := 35 } : Room) s m #[(.ref x), (.ref b), (.int (0 : Int32)), (.int (1 : Int32)), .null] below meth c s₁ [] 0 0 := Stand.of_body Bd
  have e0 : s₁.heap = h0 := by rw [← hh, Bd.state]; rfl
  have N0 := Fr.nil n0
  have hn0 : Z.heap.size = n0 := O0.1
  have KT0 : Keep h0 h0 [x] := Keep.refl _ _
  refine own_enter (Φ := fun oo_ UV_ => ∃ vv_ LL_, oo_ = .returned vv_ ∧ Q_rmS4_1 Z zC x b kC c0 h0 n0 vv_ UV_.heap LL_ ∧ FrameEnd s oo_ UV_ LL_ ({ frames := 2, cells := 1, slots := 1, locals := 35 } : Room).cells ({ frames := 2, cells := 1, slots := 1, locals := 35 } : Room).slots) (own_ef_rmS4_1 m x b (0 : Int32) (1 : Int32)) ?_
  have ne1 : b ≠ x := hbx
  refine own_by (T' := s₁) (g' := (mkF m 1 #[.val (.ref x), .val (.ref b), .val (.int (0 : Int32)), .val (.int (1 : Int32)), .val .null, .unset] [(.ref x)])) (fun _ kt_ => XS.aloadN X0.here hx rfl (hb hby own_d3_0) rfl rfl kt_) ?_
  obtain ⟨T2, X2, e2, st2⟩ := initO X0 hx hZ hown (hw _ (List.mem_of_getElem? (i := 15) rfl)) (hw _ (List.mem_of_getElem? (i := 16) rfl)) (hw _ (List.mem_of_getElem? (i := 17) rfl)) e0 (g := (mkF m 1 #[.val (.ref x), .val (.ref b), .val (.int (0 : Int32)), .val (.int (1 : Int32)), .val .null, .unset] [(.ref x)])) rfl (by rw [hml]; rfl) rfl (hb hby own_d3_1) (by decide) (W := 0) (by show 2 * 0 + _ ≤ _; exact Nat.le_of_eq rfl) (by decide)
  refine own_by (T' := T2) (g' := (mkF m 4 #[.val (.ref x), .val (.ref b), .val (.int (0 : Int32)), .val (.int (1 : Int32)), .val .null, .unset] [])) st2 ?_
  refine own_by (T' := T2) (g' := (mkF m 5 #[.val (.ref x), .val (.ref b), .val (.int (0 : Int32)), .val (.int (1 : Int32)), .val .null, .unset] [(.int (1 : Int32))])) (fun _ kt_ => XS.iloadN X2.here hx rfl (hb hby own_d3_4) rfl kt_) ?_
  refine own_by (T' := T2) (g' := (mkF m 27 #[.val (.ref x), .val (.ref b), .val (.int (0 : Int32)), .val (.int (1 : Int32)), .val .null, .unset] [])) (fun _ kt_ => XS.ifYes X2.here hx rfl (pc0 := 5) (pc' := 27) rfl (hb hby own_d3_5) rfl (XT.i0_ne_t (by decide)) (by decide) (by decide) kt_) ?_
  have f3 := GS.1.ext O0.2
  obtain ⟨T4, X4, e4, st4⟩ := getS2 X2 hx hZ hown (host := "") (Or.inl (hw _ (List.mem_of_getElem? (i := 18) rfl))) Via.refl e2 f3 (g := (mkF m 27 #[.val (.ref x), .val (.ref b), .val (.int (0 : Int32)), .val (.int (1 : Int32)), .val .null, .unset] [])) rfl (hb hby own_d3_27)
  refine own_by (T' := T4) (g' := (mkF m 30 #[.val (.ref x), .val (.ref b), .val (.int (0 : Int32)), .val (.int (1 : Int32)), .val .null, .unset] [(.int zC)])) st4 ?_
  refine own_by (T' := T4) (g' := (mkF m 33 #[.val (.ref x), .val (.ref b), .val (.int (0 : Int32)), .val (.int (1 : Int32)), .val .null, .unset] [])) (fun _ kt_ => XS.ifNo X4.here hx rfl (hb hby own_d3_30) rfl (XT.i0_eq_f GS.2) kt_) ?_
  refine own_by (T' := T4) (g' := (mkF m 34 #[.val (.ref x), .val (.ref b), .val (.int (0 : Int32)), .val (.int (1 : Int32)), .val .null, .unset] [(.ref b)])) (fun _ kt_ => XS.aloadN X4.here hx rfl (hb hby own_d3_33) rfl rfl kt_) ?_
  refine own_by (T' := T4) (g' := (mkF m 35 #[.val (.ref x), .val (.ref b), .val (.int (0 : Int32)), .val (.int (1 : Int32)), .val .null, .unset] [(.int (0 : Int32)), (.ref b)])) (fun _ kt_ => XS.iloadN X4.here hx rfl (hb hby own_d3_34) rfl kt_) ?_
  refine own_by (T' := T4) (g' := (mkF m 36 #[.val (.ref x), .val (.ref b), .val (.int (0 : Int32)), .val (.int (1 : Int32)), .val .null, .unset] [(.int (1 : Int32)), (.int (0 : Int32)), (.ref b)])) (fun _ kt_ => XS.iloadN X4.here hx rfl (hb hby own_d3_35) rfl kt_) ?_
  obtain ⟨_, _, ⟨T5, L5, k5, n5⟩, -, X5, ⟨Lc5, hQ5, l5, y5, z5⟩, st5⟩ := Jvm.LawKit.callS X4 hx (y := (⟨"java/lang/StringUTF16", "compress", "([CII)[B"⟩ : MethodName)) hown (mvT hZ (hw _ (List.mem_of_getElem? (i := 19) rfl))) (mvT hZ (hw _ (List.mem_of_getElem? (i := 20) rfl))) (mvT hZ (hw _ (List.mem_of_getElem? (i := 21) rfl))) (mvT hZ (hw _ (List.mem_of_getElem? (i := 22) rfl))) (by decide) (backOf (W := 0) (rmC3_1 l Z a0 hw [] zC GS b kC c0 h0 n0 (by omega) O0 Vb hp0) hZ (hw _ (List.mem_of_getElem? (i := 22) rfl)) (hw _ (List.mem_of_getElem? (i := 21) rfl)) (by decide) (by decide)) (g := (mkF m 36 #[.val (.ref x), .val (.ref b), .val (.int (0 : Int32)), .val (.int (1 : Int32)), .val .null, .unset] [(.int (1 : Int32)), (.int (0 : Int32)), (.ref b)])) rfl (by rw [hml]; rfl) (argsL := [(.ref b), (.int (0 : Int32)), (.int (1 : Int32))]) (rest := []) (lenOf own_pd_1 rfl) rfl (by show 2 * 0 + _ ≤ _; exact Nat.le_of_eq rfl) (hb hby own_d3_36) (fun _ _ => ⟨rfl, e4, (by decide : 0 + 1 ≤ _), (by decide : 0 + 1 ≤ _)⟩)
  dsimp only [Pt.U, Pt.locs, Pt.cells, Pt.slots] at X5 l5 y5 z5 st5 hQ5
  subst l5 y5 z5
  obtain ⟨d_6, kB_7, rfl, N5q, K5, p5_0, p5_1⟩ := hQ5
  have N8 := Fr.app N0 N5q
  have gd_6 : h0.size ≤ d_6 := p5_0
  have zzK5 : h0.size ≤ T5.heap.size := K5.1
  have oo9 : Old Z n0 T5.heap := O0.keep K5 all0
  have kt10 : Keep h0 T5.heap [x] := KT0.trans K5 all0
  refine own_by (T' := T5) (g' := (mkF m 39 #[.val (.ref x), .val (.ref b), .val (.int (0 : Int32)), .val (.int (1 : Int32)), .val .null, .unset] [(.ref d_6)])) st5 ?_
  refine own_by (T' := T5) (g' := (mkF m 41 #[.val (.ref x), .val (.ref b), .val (.int (0 : Int32)), .val (.int (1 : Int32)), .val .null, .val (.ref d_6)] [])) (fun _ kt_ => XS.astore X5.here hx rfl (hb hby own_d3_39) rfl rfl (l' := #[.val (.ref x), .val (.ref b), .val (.int (0 : Int32)), .val (.int (1 : Int32)), .val .null, .val (.ref d_6)]) rfl kt_) ?_
  refine own_by (T' := T5) (g' := (mkF m 42 #[.val (.ref x), .val (.ref b), .val (.int (0 : Int32)), .val (.int (1 : Int32)), .val .null, .val (.ref d_6)] [(.ref x)])) (fun _ kt_ => XS.aloadN X5.here hx rfl (hb hby own_d3_41) rfl rfl kt_) ?_
  refine own_by (T' := T5) (g' := (mkF m 44 #[.val (.ref x), .val (.ref b), .val (.int (0 : Int32)), .val (.int (1 : Int32)), .val .null, .val (.ref d_6)] [(.ref d_6), (.ref x)])) (fun _ kt_ => XS.aload X5.here hx rfl (hb hby own_d3_42) rfl rfl kt_) ?_
  refine own_by (T' := T5) (g' := (mkF m 45 #[.val (.ref x), .val (.ref b), .val (.int (0 : Int32)), .val (.int (1 : Int32)), .val .null, .val (.ref d_6)] [(.int (1 : Int32)), (.ref d_6), (.ref x)])) (fun _ kt_ => XS.iloadN X5.here hx rfl (hb hby own_d3_44) rfl kt_) ?_
  obtain ⟨_, _, ⟨T11, L11, k11, n11⟩, -, X11, ⟨Lc11, hQ11, l11, y11, z11⟩, st11⟩ := Jvm.LawKit.callS X5 hx (y := (⟨"java/lang/StringUTF16", "coderFromArrayLen", "([BI)B"⟩ : MethodName)) hown (mvT hZ (hw _ (List.mem_of_getElem? (i := 27) rfl))) (mvT hZ (hw _ (List.mem_of_getElem? (i := 28) rfl))) (mvT hZ (hw _ (List.mem_of_getElem? (i := 21) rfl))) (mvT hZ (hw _ (List.mem_of_getElem? (i := 29) rfl))) (by decide) (backOf (W := 1) (rmCod_1 l Z a0 hw [] zC GS d_6 kB_7 c0.toInt8.toInt32 T5.heap n0 (by omega) oo9 p5_1) hZ (hw _ (List.mem_of_getElem? (i := 29) rfl)) (hw _ (List.mem_of_getElem? (i := 21) rfl)) (by decide) (by decide)) (g := (mkF m 45 #[.val (.ref x), .val (.ref b), .val (.int (0 : Int32)), .val (.int (1 : Int32)), .val .null, .val (.ref d_6)] [(.int (1 : Int32)), (.ref d_6), (.ref x)])) rfl (by rw [hml]; rfl) (argsL := [(.ref d_6), (.int (1 : Int32))]) (rest := [(.ref x)]) (lenOf own_pd_2 rfl) rfl (by show 2 * 0 + _ ≤ _; exact Nat.le_of_eq rfl) (hb hby own_d3_45) (fun _ _ => ⟨rfl, rfl, (by decide : 1 + 0 ≤ _), (by decide : 1 + 0 ≤ _)⟩)
  dsimp only [Pt.U, Pt.locs, Pt.cells, Pt.slots] at X11 l11 y11 z11 st11 hQ11
  subst l11 y11 z11
  obtain ⟨rfl, N11q, e11⟩ := hQ11
  have N12 := Fr.app N8 N11q
  refine own_by (T' := T11) (g' := (mkF m 48 #[.val (.ref x), .val (.ref b), .val (.int (0 : Int32)), .val (.int (1 : Int32)), .val .null, .val (.ref d_6)] [(.int (0 : Int32)), (.ref x)])) st11 ?_
  have f13 : Exa Z T5.heap x "java/lang/String" := (E_x.keep K5)
  have f14 : Fld Z T5.heap x "java/lang/String" "coder" "B" (.int (0 : Int32)) := (Fc.keep K5 nin0)
  obtain ⟨T15, h15, X15, e15, W15, st15⟩ := putFN X11 hx hZ hown (hw _ (List.mem_of_getElem? (i := 30) rfl)) Via.refl e11 f14 f13 (Or.inr ⟨(hw _ (List.mem_of_getElem? (i := 31) rfl)), rfl, hnm⟩) (hw _ (List.mem_of_getElem? (i := 5) rfl)) (ty := .byte) (v' := (.int (0 : Int32).toInt8.toInt32)) (by decide) rfl (fits_nar_byte _) (g := (mkF m 48 #[.val (.ref x), .val (.ref b), .val (.int (0 : Int32)), .val (.int (1 : Int32)), .val .null, .val (.ref d_6)] [(.int (0 : Int32)), (.ref x)])) rfl rfl (hb hby own_d3_48)
  have K16 : Keep T5.heap h15 [x] := Keep.of_wr W15
  have f17 : Fld Z T5.heap x "java/lang/String" "value" "[B" .null := (Fv.keep K5 nin0)
  have zzK16 : T5.heap.size ≤ h15.size := K16.1
  have oo18 : Old Z n0 h15 := oo9.keep K16 (allS (by omega : n0 ≤ x) all0)
  have kt19 : Keep h0 h15 [x] := kt10.trans K16 (allS (Or.inl (List.mem_of_getElem? (i := 0) rfl)) all0)
  have f20 : Fld Z h15 x "java/lang/String" "value" "[B" .null := f17.other W15 (Or.inr (slot_ne (Or.inr (hw _ (List.mem_of_getElem? (i := 33) rfl))) (Or.inr (hw _ (List.mem_of_getElem? (i := 31) rfl))) (by decide) (t := (.array .byte)) (t' := .byte) (by decide) (by decide)))
  have f21 : Fld Z h15 x "java/lang/String" "coder" "B" (.int (0 : Int32).toInt8.toInt32) := f14.same W15
  have N22 := Fr.snoc X15 N12 (by omega : n0 ≤ x)
  refine own_by (T' := T15) (g' := (mkF m 51 #[.val (.ref x), .val (.ref b), .val (.int (0 : Int32)), .val (.int (1 : Int32)), .val .null, .val (.ref d_6)] [])) st15 ?_
  refine own_by (T' := T15) (g' := (mkF m 52 #[.val (.ref x), .val (.ref b), .val (.int (0 : Int32)), .val (.int (1 : Int32)), .val .null, .val (.ref d_6)] [(.ref x)])) (fun _ kt_ => XS.aloadN X15.here hx rfl (hb hby own_d3_51) rfl rfl kt_) ?_
  refine own_by (T' := T15) (g' := (mkF m 54 #[.val (.ref x), .val (.ref b), .val (.int (0 : Int32)), .val (.int (1 : Int32)), .val .null, .val (.ref d_6)] [(.ref d_6), (.ref x)])) (fun _ kt_ => XS.aload X15.here hx rfl (hb hby own_d3_52) rfl rfl kt_) ?_
  have f23 : Exa Z h15 x "java/lang/String" := (f13.keep K16)
  obtain ⟨T24, h24, X24, e24, W24, st24⟩ := putF X15 hx hZ hown (host := "") (Or.inl (hw _ (List.mem_of_getElem? (i := 32) rfl))) Via.refl e15 f20 f23 (Or.inr ⟨(hw _ (List.mem_of_getElem? (i := 33) rfl)), rfl, hnm⟩) (hw _ (List.mem_of_getElem? (i := 5) rfl)) (ty := (.array .byte)) (by decide) rfl rfl (g := (mkF m 54 #[.val (.ref x), .val (.ref b), .val (.int (0 : Int32)), .val (.int (1 : Int32)), .val .null, .val (.ref d_6)] [(.ref d_6), (.ref x)])) rfl rfl (hb hby own_d3_54)
  have K25 : Keep h15 h24 [x] := Keep.of_wr W24
  have zzK25 : h15.size ≤ h24.size := K25.1
  have oo26 : Old Z n0 h24 := oo18.keep K25 (allS (by omega : n0 ≤ x) all0)
  have kt27 : Keep h0 h24 [x] := kt19.trans K25 (allS (Or.inl (List.mem_of_getElem? (i := 0) rfl)) all0)
  have f28 : Fld Z h24 x "java/lang/String" "value" "[B" (.ref d_6) := f20.same W24
  have f29 : Fld Z h24 x "java/lang/String" "coder" "B" (.int (0 : Int32).toInt8.toInt32) := f21.other W24 (Or.inr (slot_ne (Or.inr (hw _ (List.mem_of_getElem? (i := 31) rfl))) (Or.inr (hw _ (List.mem_of_getElem? (i := 33) rfl))) (by decide) (t := .byte) (t' := (.array .byte)) (by decide) (by decide)))
  have N30 := Fr.snoc X24 N22 (by omega : n0 ≤ x)
  refine own_by (T' := T24) (g' := (mkF m 57 #[.val (.ref x), .val (.ref b), .val (.int (0 : Int32)), .val (.int (1 : Int32)), .val .null, .val (.ref d_6)] [])) st24 ?_
  have la31 : @LT.lt Nat instLTNat d_6 T5.heap.size := p5_1.lt
  have hv32 : ((.int (0 : Int32).toInt8.toInt32) : Value) = (.int (0 : Int32)) := rfl
  have la33 : @LT.lt Nat instLTNat x h0.size := E_x.lt
  have ne34 : @Ne Nat d_6 x := by omega
  have f35 : Arv Z h24 d_6 kB_7 .byte (1 : Int32) [(.int c0.toInt8.toInt32)] (.int (0 : Int32)) := ((p5_1.keep K16 (ninS ne34 nin0)).keep K25 (ninS ne34 nin0))
  obtain ⟨fs36, hr36, hrun36, hended36, hW36, hsame36⟩ := X24.leave (v := none) (fun _ => rfl)
  refine ⟨_, _, X24.returnOut hx Bd.returns (hb hby own_d3_57) hr36, hrun36, hended36, _, _, rfl, ?_, ⟨_, rfl⟩, hW36, hsame36.mono (by decide) (by decide)⟩
  show Q_rmS4_1 Z zC x b kC c0 h0 n0 _ T24.heap _
  rw [e24]
  exact ⟨d_6, kB_7, rfl, N30, kt27, (by omega), f28, (hv32 ▸ f29), f35⟩
theorem own_pd_3 : parseMethodDescriptor "([CIILjava/lang/Void;)V" = some ⟨[(.array .char), .int, .int, (.object "java/lang/Void")], none⟩ := by decide +kernel
theorem own_d2_0 : decode jdk_42_method_3_code 0 = .ok (.aload_n 0, 1) := by decide +kernel
theorem own_d2_1 : decode jdk_42_method_3_code 1 = .ok (.aload_n 1, 1) := by decide +kernel
theorem own_d2_2 : decode jdk_42_method_3_code 2 = .ok (.iconst 0, 1) := by decide +kernel
theorem own_d2_3 : decode jdk_42_method_3_code 3 = .ok (.aload_n 1, 1) := by decide +kernel
theorem own_d2_4 : decode jdk_42_method_3_code 4 = .ok (.arraylength, 1) := by decide +kernel
theorem own_d2_5 : decode jdk_42_method_3_code 5 = .ok (.aconst_null, 1) := by decide +kernel
theorem own_d2_6 : decode jdk_42_method_3_code 6 = .ok (.invokespecial 27, 3) := by decide +kernel
theorem own_d2_9 : decode jdk_42_method_3_code 9 = .ok (.return_, 1) := by decide +kernel
theorem own_ef_rmS1_1 (m : MethodId) (x0 : Addr) (x1 : Addr) : entryFrame m #[(.ref x0), (.ref x1)] 2 = mkF m 0 #[.val (.ref x0), .val (.ref x1)] [] := by first | (simp [entryFrame, mkF, argsToLocals, Value.category]; done) | rfl
def Q_rmS1_1 (Z : State) (zC : Int32) (x : Addr) (b : Addr) (kC : ClassId) (c0 : Int32) (h0 : Heap) (n0 : Nat) (vv_ : Option Value) (hh_ : Heap) (LL_ : List Loc) : Prop := ∃ t : Addr, ∃ kB : ClassId, vv_ = none ∧ Fr n0 LL_ ∧ Keep h0 hh_ [x] ∧ h0.size ≤ t ∧ Fld Z hh_ x "java/lang/String" "value" "[B" (.ref t) ∧ Fld Z hh_ x "java/lang/String" "coder" "B" (.int (0 : Int32)) ∧ Arv Z hh_ t kB .byte (1 : Int32) [(.int c0.toInt8.toInt32)] (.int (0 : Int32))
set_option maxRecDepth 65536 in
set_option maxHeartbeats 40000000 in
theorem rmS1_1 (l : Launch) (Z : State) (a0 : Array Value) (hw : ∀ d ∈ tables_1, d.before a0 Z = true) (ws : List Jvm.Cond) (zC : Int32) (GS : Glob Z zC) (x : Addr) (b : Addr) (kC : ClassId) (c0 : Int32) (h0 : Heap) (n0 : Nat) (Z0 : n0 ≤ h0.size) (O0 : Old Z n0 h0) (E_x : Exa Z h0 x "java/lang/String") (g_x : n0 ≤ x) (Fv : Fld Z h0 x "java/lang/String" "value" "[B" .null) (Fc : Fld Z h0 x "java/lang/String" "coder" "B" (.int (0 : Int32))) (Vb : Arv Z h0 b kC .char (1 : Int32) [(.int c0)] (.int (0 : Int32))) (hbx : b ≠ x) (hp0 : ¬ (255 : Int32) < c0) :
    MetFree l (⟨"java/lang/String", "<init>", "([C)V"⟩ : MethodName) (head1 (Jvm.Cond.code (⟨"java/lang/String", "<init>", "([C)V"⟩ : MethodName) jdk_42_method_3_code 2 none :: ws) ({ frames := 3, cells := 1, slots := 1, locals := 52 } : Room)) (fun aa_ UU_ => aa_ = #[(.ref x), (.ref b)] ∧ Z.Warmed39 UU_.vm ∧ UU_.heap = h0) (fun _ _ _ _ _ => True) (fun _ UU_ oo_ UV_ => ∃ vv_ LL_, oo_ = .returned vv_ ∧ Q_rmS1_1 Z zC x b kC c0 h0 n0 vv_ UV_.heap LL_ ∧ FrameEnd UU_ oo_ UV_ LL_ ({ frames := 3, cells := 1, slots := 1, locals := 52 } : Room).cells ({ frames := 3, cells := 1, slots := 1, locals := 52 } : Room).slots) := by
  refine MetFree.of_bodySF (plainFor_of_name own_pn_java_lang_String) hisR ?_
  intro p e s m args below meth c s₁ Bd hml0 hP hK
  obtain ⟨rfl, hZ, hh⟩ := hP
  have hx := Bd.exec
  have hby := Bd.bytes
  have hml : c.maxLocals = 2 := hml0
  have hown : s.vm.findClass "java/lang/String" = some m.cls := findClass_of_methodNamed Bd.named
  have hnm := (name_of_methodNamed Bd.named Bd.method).1
  have X0 : Stand p l e ({ frames := 3, cells := 1, slots := 1, locals := 52 } : Room) s m #[(.ref x), (.ref b)] below meth c s₁ [] 0 0 := Stand.of_body Bd
  have e0 : s₁.heap = h0 := by rw [← hh, Bd.state]; rfl
  have N0 := Fr.nil n0
  have hn0 : Z.heap.size = n0 := O0.1
  have KT0 : Keep h0 h0 [x] := Keep.refl _ _
  refine own_enter (Φ := fun oo_ UV_ => ∃ vv_ LL_, oo_ = .returned vv_ ∧ Q_rmS1_1 Z zC x b kC c0 h0 n0 vv_ UV_.heap LL_ ∧ FrameEnd s oo_ UV_ LL_ ({ frames := 3, cells := 1, slots := 1, locals := 52 } : Room).cells ({ frames := 3, cells := 1, slots := 1, locals := 52 } : Room).slots) (own_ef_rmS1_1 m x b) ?_
  have ne1 : b ≠ x := hbx
  refine own_by (T' := s₁) (g' := (mkF m 1 #[.val (.ref x), .val (.ref b)] [(.ref x)])) (fun _ kt_ => XS.aloadN X0.here hx rfl (hb hby own_d2_0) rfl rfl kt_) ?_
  refine own_by (T' := s₁) (g' := (mkF m 2 #[.val (.ref x), .val (.ref b)] [(.ref b), (.ref x)])) (fun _ kt_ => XS.aloadN X0.here hx rfl (hb hby own_d2_1) rfl rfl kt_) ?_
  refine own_by (T' := s₁) (g' := (mkF m 3 #[.val (.ref x), .val (.ref b)] [(.int (0 : Int32)), (.ref b), (.ref x)])) (fun _ kt_ => XS.iconst X0.here hx rfl (hb hby own_d2_2) kt_) ?_
  refine own_by (T' := s₁) (g' := (mkF m 4 #[.val (.ref x), .val (.ref b)] [(.ref b), (.int (0 : Int32)), (.ref b), (.ref x)])) (fun _ kt_ => XS.aloadN X0.here hx rfl (hb hby own_d2_3) rfl rfl kt_) ?_
  obtain ⟨cl2, Ar2, q2, S2, M2, H2, G2⟩ := id Vb
  refine own_by (T' := s₁) (g' := (mkF m 5 #[.val (.ref x), .val (.ref b)] [(.int (1 : Int32)), (.int (0 : Int32)), (.ref b), (.ref x)])) (fun _ kt_ => X0.arraylength hx (by rw [e0]; exact Ar2.1) (State.isArrayOf_alike hZ.alike Ar2.2.1) (g := (mkF m 4 #[.val (.ref x), .val (.ref b)] [(.ref b), (.int (0 : Int32)), (.ref b), (.ref x)])) rfl rfl (hb hby own_d2_4) _ (by rw [len_of S2 M2]; exact kt_)) ?_
  refine own_by (T' := s₁) (g' := (mkF m 6 #[.val (.ref x), .val (.ref b)] [.null, (.int (1 : Int32)), (.int (0 : Int32)), (.ref b), (.ref x)])) (fun _ kt_ => XS.aconstNull X0.here hx rfl (hb hby own_d2_5) kt_) ?_
  have la3 : @LT.lt Nat instLTNat x h0.size := E_x.lt
  obtain ⟨_, _, ⟨T4, L4, k4, n4⟩, -, X4, ⟨Lc4, hQ4, l4, y4, z4⟩, st4⟩ := X0.specialBack hx (y := (⟨"java/lang/String", "<init>", "([CIILjava/lang/Void;)V"⟩ : MethodName)) rfl hown (mvT hZ (hw _ (List.mem_of_getElem? (i := 11) rfl))) (mvT hZ (hw _ (List.mem_of_getElem? (i := 12) rfl))) (mvT hZ (hw _ (List.mem_of_getElem? (i := 14) rfl))) (by decide) (backOf (W := 0) (rmS4_1 l Z a0 hw [] zC GS x b kC c0 h0 n0 (by omega) O0 E_x (by omega) Fv Fc Vb hbx hp0) hZ (hw _ (List.mem_of_getElem? (i := 14) rfl)) (hw _ (List.mem_of_getElem? (i := 6) rfl)) (by decide) (by decide)) (g := (mkF m 6 #[.val (.ref x), .val (.ref b)] [.null, (.int (1 : Int32)), (.int (0 : Int32)), (.ref b), (.ref x)])) rfl (by rw [hml]; rfl) (Steps.refl _) (a := x) (argsL := [(.ref b), (.int (0 : Int32)), (.int (1 : Int32)), .null]) (rest := []) (lenOf own_pd_3 rfl) rfl (by show 2 * 0 + _ ≤ _; exact Nat.le_of_eq rfl) (hb hby own_d2_6) (fun _ _ => ⟨rfl, e0, (by decide : 0 + 1 ≤ _), (by decide : 0 + 1 ≤ _)⟩)
  dsimp only [Pt.U, Pt.locs, Pt.cells, Pt.slots] at X4 l4 y4 z4 st4 hQ4
  subst l4 y4 z4
  obtain ⟨t_5, kB_6, rfl, N4q, K4, p4_0, p4_1, p4_2, p4_3⟩ := hQ4
  have N7 := Fr.app N0 N4q
  have gt_5 : h0.size ≤ t_5 := p4_0
  have zzK4 : h0.size ≤ T4.heap.size := K4.1
  have oo8 : Old Z n0 T4.heap := O0.keep K4 (allS (by omega : n0 ≤ x) all0)
  have kt9 : Keep h0 T4.heap [x] := KT0.trans K4 (allS (Or.inl (List.mem_of_getElem? (i := 0) rfl)) all0)
  refine own_by (T' := T4) (g' := (mkF m 9 #[.val (.ref x), .val (.ref b)] [])) (fun _ kt_ => st4.trans kt_) ?_
  have la10 : @LT.lt Nat instLTNat t_5 T4.heap.size := p4_3.lt
  obtain ⟨fs11, hr11, hrun11, hended11, hW11, hsame11⟩ := X4.leave (v := none) (fun _ => rfl)
  refine ⟨_, _, X4.returnOut hx Bd.returns (hb hby own_d2_9) hr11, hrun11, hended11, _, _, rfl, ?_, ⟨_, rfl⟩, hW11, hsame11.mono (by decide) (by decide)⟩
  show Q_rmS1_1 Z zC x b kC c0 h0 n0 _ T4.heap _
  exact ⟨t_5, kB_6, rfl, N7, kt9, (by omega), p4_1, p4_2, p4_3⟩
theorem own_ef_rmC5_2 (m : MethodId) (x0 : Addr) (x1 : Int32) (x2 : Addr) (x3 : Int32) (x4 : Int32) : entryFrame m #[(.ref x0), (.int x1), (.ref x2), (.int x3), (.int x4)] 7 = mkF m 0 #[.val (.ref x0), .val (.int x1), .val (.ref x2), .val (.int x3), .val (.int x4), .unset, .unset] [] := by first | (simp [entryFrame, mkF, argsToLocals, Value.category]; done) | rfl
def Q_rmC5_2 (Z : State) (zC : Int32) (b : Addr) (d : Addr) (kC : ClassId) (kB : ClassId) (c0 : Int32) (c1 : Int32) (h0 : Heap) (n0 : Nat) (vv_ : Option Value) (hh_ : Heap) (LL_ : List Loc) : Prop := vv_ = some (.int (2 : Int32)) ∧ Fr n0 LL_ ∧ Keep h0 hh_ [d] ∧ Arv Z hh_ d kB .byte (2 : Int32) [(.int c0.toInt8.toInt32), (.int c1.toInt8.toInt32)] (.int (0 : Int32))
set_option maxRecDepth 65536 in
set_option maxHeartbeats 40000000 in
theorem rmC5_2 (l : Launch) (Z : State) (a0 : Array Value) (hw : ∀ d ∈ tables_1, d.before a0 Z = true) (ws : List Jvm.Cond) (zC : Int32) (GS : Glob Z zC) (b : Addr) (d : Addr) (kC : ClassId) (kB : ClassId) (c0 : Int32) (c1 : Int32) (h0 : Heap) (n0 : Nat) (Z0 : n0 ≤ h0.size) (O0 : Old Z n0 h0) (Vb : Arv Z h0 b kC .char (2 : Int32) [(.int c0), (.int c1)] (.int (0 : Int32))) (Vd : Arv Z h0 d kB .byte (2 : Int32) [(.int (0 : Int32)), (.int (0 : Int32))] (.int (0 : Int32))) (gd : n0 ≤ d) (hbd : b ≠ d) (hp0 : ¬ (255 : Int32) < c0) (hp1 : ¬ (255 : Int32) < c1) :
    MetFree l (⟨"java/lang/StringUTF16", "compress", "([CI[BII)I"⟩ : MethodName) (head1 (Jvm.Cond.code (⟨"java/lang/StringUTF16", "compress", "([CI[BII)I"⟩ : MethodName) jdk_52_method_21_code 7 (some .int) :: ws) ({ frames := 0, cells := 0, slots := 0, locals := 0 } : Room)) (fun aa_ UU_ => aa_ = #[(.ref b), (.int (0 : Int32)), (.ref d), (.int (0 : Int32)), (.int (2 : Int32))] ∧ Z.Warmed39 UU_.vm ∧ UU_.heap = h0) (fun _ _ _ _ _ => True) (fun _ UU_ oo_ UV_ => ∃ vv_ LL_, oo_ = .returned vv_ ∧ Q_rmC5_2 Z zC b d kC kB c0 c1 h0 n0 vv_ UV_.heap LL_ ∧ FrameEnd UU_ oo_ UV_ LL_ ({ frames := 0, cells := 0, slots := 0, locals := 0 } : Room).cells ({ frames := 0, cells := 0, slots := 0, locals := 0 } : Room).slots) := by
  refine MetFree.of_bodySF (plainFor_of_name own_pn_java_lang_StringUTF16) hisR ?_
  intro p e s m args below meth c s₁ Bd hml0 hP hK
  obtain ⟨rfl, hZ, hh⟩ := hP
  have hx := Bd.exec
  have hby := Bd.bytes
  have hml : c.maxLocals = 7 := hml0
  have hown : s.vm.findClass "java/lang/StringUTF16" = some m.cls := findClass_of_methodNamed Bd.named
  have hnm := (name_of_methodNamed Bd.named Bd.method).1
  have X0 : Stand p l e ({ frames := 0, cells := 0, slots := 0, locals := 0 } : Room) s m #[(.ref b), (.int (0 : Int32)), (.ref d), (.int (0 : Int32)), (.int (2 : Int32))] below meth c s₁ [] 0 0 := Stand.of_body Bd
  have e0 : s₁.heap = h0 := by rw [← hh, Bd.state]; rfl
  have N0 := Fr.nil n0
  have hn0 : Z.heap.size = n0 := O0.1
  have KT0 : Keep h0 h0 [d] := Keep.refl _ _
  refine own_enter (Φ := fun oo_ UV_ => ∃ vv_ LL_, oo_ = .returned vv_ ∧ Q_rmC5_2 Z zC b d kC kB c0 c1 h0 n0 vv_ UV_.heap LL_ ∧ FrameEnd s oo_ UV_ LL_ ({ frames := 0, cells := 0, slots := 0, locals := 0 } : Room).cells ({ frames := 0, cells := 0, slots := 0, locals := 0 } : Room).slots) (own_ef_rmC5_2 m b (0 : Int32) d (0 : Int32) (2 : Int32)) ?_
  have ne1 : b ≠ d := hbd
  refine own_by (T' := s₁) (g' := (mkF m 1 #[.val (.ref b), .val (.int (0 : Int32)), .val (.ref d), .val (.int (0 : Int32)), .val (.int (2 : Int32)), .unset, .unset] [(.int (0 : Int32))])) (fun _ kt_ => XS.iconst X0.here hx rfl (hb hby own_d6_0) kt_) ?_
  refine own_by (T' := s₁) (g' := (mkF m 3 #[.val (.ref b), .val (.int (0 : Int32)), .val (.ref d), .val (.int (0 : Int32)), .val (.int (2 : Int32)), .val (.int (0 : Int32)), .unset] [])) (fun _ kt_ => XS.istore X0.here hx rfl (hb hby own_d6_1) rfl (l' := #[.val (.ref b), .val (.int (0 : Int32)), .val (.ref d), .val (.int (0 : Int32)), .val (.int (2 : Int32)), .val (.int (0 : Int32)), .unset]) rfl kt_) ?_
  refine own_by (T' := s₁) (g' := (mkF m 5 #[.val (.ref b), .val (.int (0 : Int32)), .val (.ref d), .val (.int (0 : Int32)), .val (.int (2 : Int32)), .val (.int (0 : Int32)), .unset] [(.int (0 : Int32))])) (fun _ kt_ => XS.iload X0.here hx rfl (hb hby own_d6_3) rfl kt_) ?_
  refine own_by (T' := s₁) (g' := (mkF m 7 #[.val (.ref b), .val (.int (0 : Int32)), .val (.ref d), .val (.int (0 : Int32)), .val (.int (2 : Int32)), .val (.int (0 : Int32)), .unset] [(.int (2 : Int32)), (.int (0 : Int32))])) (fun _ kt_ => XS.iload X0.here hx rfl (hb hby own_d6_5) rfl kt_) ?_
  refine own_by (T' := s₁) (g' := (mkF m 10 #[.val (.ref b), .val (.int (0 : Int32)), .val (.ref d), .val (.int (0 : Int32)), .val (.int (2 : Int32)), .val (.int (0 : Int32)), .unset] [])) (fun _ kt_ => XS.icmpNo X0.here hx rfl (hb hby own_d6_7) rfl (XT.ii_ge_f (by decide)) kt_) ?_
  refine own_by (T' := s₁) (g' := (mkF m 11 #[.val (.ref b), .val (.int (0 : Int32)), .val (.ref d), .val (.int (0 : Int32)), .val (.int (2 : Int32)), .val (.int (0 : Int32)), .unset] [(.ref b)])) (fun _ kt_ => XS.aloadN X0.here hx rfl (hb hby own_d6_10) rfl rfl kt_) ?_
  refine own_by (T' := s₁) (g' := (mkF m 12 #[.val (.ref b), .val (.int (0 : Int32)), .val (.ref d), .val (.int (0 : Int32)), .val (.int (2 : Int32)), .val (.int (0 : Int32)), .unset] [(.int (0 : Int32)), (.ref b)])) (fun _ kt_ => XS.iloadN X0.here hx rfl (hb hby own_d6_11) rfl kt_) ?_
  obtain ⟨cl2, Ar2, q2, S2, M2, H2, G2⟩ := id Vb
  have hin2 : ¬ ((0 : Int32) < 0 ∨ cl2.slots.size ≤ ((0 : Int32)).toNatClampNeg) := inb_of S2 ⟨by decide, by decide⟩
  have hat2 : cl2.slots[((0 : Int32)).toNatClampNeg]? = some (.int c0) := H2.at hin2 rfl
  refine own_by (T' := s₁) (g' := (mkF m 13 #[.val (.ref b), .val (.int (0 : Int32)), .val (.ref d), .val (.int (0 : Int32)), .val (.int (2 : Int32)), .val (.int (0 : Int32)), .unset] [(.int c0)])) (fun _ kt_ => X0.caload hx (j := (0 : Int32)) (v := (.int c0)) (by rw [e0]; exact Ar2.1) (State.isArrayOf_alike hZ.alike Ar2.2.1) Ar2.2.2 hin2 hat2 (g := (mkF m 12 #[.val (.ref b), .val (.int (0 : Int32)), .val (.ref d), .val (.int (0 : Int32)), .val (.int (2 : Int32)), .val (.int (0 : Int32)), .unset] [(.int (0 : Int32)), (.ref b)])) rfl rfl (hb hby own_d6_12) _ kt_) ?_
  refine own_by (T' := s₁) (g' := (mkF m 15 #[.val (.ref b), .val (.int (0 : Int32)), .val (.ref d), .val (.int (0 : Int32)), .val (.int (2 : Int32)), .val (.int (0 : Int32)), .val (.int c0)] [])) (fun _ kt_ => XS.istore X0.here hx rfl (hb hby own_d6_13) rfl (l' := #[.val (.ref b), .val (.int (0 : Int32)), .val (.ref d), .val (.int (0 : Int32)), .val (.int (2 : Int32)), .val (.int (0 : Int32)), .val (.int c0)]) rfl kt_) ?_
  refine own_by (T' := s₁) (g' := (mkF m 17 #[.val (.ref b), .val (.int (0 : Int32)), .val (.ref d), .val (.int (0 : Int32)), .val (.int (2 : Int32)), .val (.int (0 : Int32)), .val (.int c0)] [(.int c0)])) (fun _ kt_ => XS.iload X0.here hx rfl (hb hby own_d6_15) rfl kt_) ?_
  refine own_by (T' := s₁) (g' := (mkF m 20 #[.val (.ref b), .val (.int (0 : Int32)), .val (.ref d), .val (.int (0 : Int32)), .val (.int (2 : Int32)), .val (.int (0 : Int32)), .val (.int c0)] [(.int (255 : Int32)), (.int c0)])) (fun _ kt_ => XS.sipush X0.here hx rfl (hb hby own_d6_17) kt_) ?_
  refine own_by (T' := s₁) (g' := (mkF m 26 #[.val (.ref b), .val (.int (0 : Int32)), .val (.ref d), .val (.int (0 : Int32)), .val (.int (2 : Int32)), .val (.int (0 : Int32)), .val (.int c0)] [])) (fun _ kt_ => XS.icmpYes X0.here hx rfl (pc0 := 20) (pc' := 26) rfl (hb hby own_d6_20) rfl (XT.ii_le_t hp0) (by decide) (by decide) kt_) ?_
  refine own_by (T' := s₁) (g' := (mkF m 27 #[.val (.ref b), .val (.int (0 : Int32)), .val (.ref d), .val (.int (0 : Int32)), .val (.int (2 : Int32)), .val (.int (0 : Int32)), .val (.int c0)] [(.ref d)])) (fun _ kt_ => XS.aloadN X0.here hx rfl (hb hby own_d6_26) rfl rfl kt_) ?_
  refine own_by (T' := s₁) (g' := (mkF m 28 #[.val (.ref b), .val (.int (0 : Int32)), .val (.ref d), .val (.int (0 : Int32)), .val (.int (2 : Int32)), .val (.int (0 : Int32)), .val (.int c0)] [(.int (0 : Int32)), (.ref d)])) (fun _ kt_ => XS.iloadN X0.here hx rfl (hb hby own_d6_27) rfl kt_) ?_
  refine own_by (T' := s₁) (g' := (mkF m 30 #[.val (.ref b), .val (.int (0 : Int32)), .val (.ref d), .val (.int (0 : Int32)), .val (.int (2 : Int32)), .val (.int (0 : Int32)), .val (.int c0)] [(.int c0), (.int (0 : Int32)), (.ref d)])) (fun _ kt_ => XS.iload X0.here hx rfl (hb hby own_d6_28) rfl kt_) ?_
  refine own_by (T' := s₁) (g' := (mkF m 31 #[.val (.ref b), .val (.int (0 : Int32)), .val (.ref d), .val (.int (0 : Int32)), .val (.int (2 : Int32)), .val (.int (0 : Int32)), .val (.int c0)] [(.int c0.toInt8.toInt32), (.int (0 : Int32)), (.ref d)])) (fun _ kt_ => XS.i2b X0.here hx rfl (hb hby own_d6_30) rfl kt_) ?_
  obtain ⟨cl3, Ar3, q3, S3, M3, H3, G3⟩ := id Vd
  have hin3 : ¬ ((0 : Int32) < 0 ∨ cl3.slots.size ≤ ((0 : Int32)).toNatClampNeg) := inb_of S3 ⟨by decide, by decide⟩
  obtain ⟨T3, h3, X3, e3, W3, st3⟩ := stB X0 hx hZ e0 Ar3 (j := (0 : Int32)) hin3 (g := (mkF m 31 #[.val (.ref b), .val (.int (0 : Int32)), .val (.ref d), .val (.int (0 : Int32)), .val (.int (2 : Int32)), .val (.int (0 : Int32)), .val (.int c0)] [(.int c0.toInt8.toInt32), (.int (0 : Int32)), (.ref d)])) rfl rfl (hb hby own_d6_31)
  rw [show nar .byte c0.toInt8.toInt32 = c0.toInt8.toInt32 from own_narB _] at W3
  have K4 : Keep h0 h3 [d] := Keep.of_wr W3
  have zzK4 : h0.size ≤ h3.size := K4.1
  have oo5 : Old Z n0 h3 := O0.keep K4 (allS (by omega : n0 ≤ d) all0)
  have kt6 : Keep h0 h3 [d] := KT0.trans K4 (allS (Or.inl (List.mem_of_getElem? (i := 0) rfl)) all0)
  have f7 : Arv Z h3 d kB .byte (2 : Int32) [(.int c0.toInt8.toInt32), (.int (0 : Int32))] (.int (0 : Int32)) := Arv.set Ar3 q3 S3 M3 H3 G3 (fits_nar_byte _) W3 0 rfl (Nat.le_of_ble_eq_true rfl)
  have N8 := Fr.snoc X3 N0 (by omega : n0 ≤ d)
  refine own_by (T' := T3) (g' := (mkF m 32 #[.val (.ref b), .val (.int (0 : Int32)), .val (.ref d), .val (.int (0 : Int32)), .val (.int (2 : Int32)), .val (.int (0 : Int32)), .val (.int c0)] [])) st3 ?_
  refine own_by (T' := T3) (g' := (mkF m 35 #[.val (.ref b), .val (.int ((0 : Int32) + (1 : Int32))), .val (.ref d), .val (.int (0 : Int32)), .val (.int (2 : Int32)), .val (.int (0 : Int32)), .val (.int c0)] [])) (fun _ kt_ => XS.iinc X3.here hx rfl (hb hby own_d6_32) rfl (l' := #[.val (.ref b), .val (.int ((0 : Int32) + (1 : Int32))), .val (.ref d), .val (.int (0 : Int32)), .val (.int (2 : Int32)), .val (.int (0 : Int32)), .val (.int c0)]) rfl kt_) ?_
  rw [show ((0 : Int32) + (1 : Int32)) = (1 : Int32) from by decide]
  refine own_by (T' := T3) (g' := (mkF m 38 #[.val (.ref b), .val (.int (1 : Int32)), .val (.ref d), .val (.int ((0 : Int32) + (1 : Int32))), .val (.int (2 : Int32)), .val (.int (0 : Int32)), .val (.int c0)] [])) (fun _ kt_ => XS.iinc X3.here hx rfl (hb hby own_d6_35) rfl (l' := #[.val (.ref b), .val (.int (1 : Int32)), .val (.ref d), .val (.int ((0 : Int32) + (1 : Int32))), .val (.int (2 : Int32)), .val (.int (0 : Int32)), .val (.int c0)]) rfl kt_) ?_
  rw [show ((0 : Int32) + (1 : Int32)) = (1 : Int32) from by decide]
  refine own_by (T' := T3) (g' := (mkF m 41 #[.val (.ref b), .val (.int (1 : Int32)), .val (.ref d), .val (.int (1 : Int32)), .val (.int (2 : Int32)), .val (.int ((0 : Int32) + (1 : Int32))), .val (.int c0)] [])) (fun _ kt_ => XS.iinc X3.here hx rfl (hb hby own_d6_38) rfl (l' := #[.val (.ref b), .val (.int (1 : Int32)), .val (.ref d), .val (.int (1 : Int32)), .val (.int (2 : Int32)), .val (.int ((0 : Int32) + (1 : Int32))), .val (.int c0)]) rfl kt_) ?_
  rw [show ((0 : Int32) + (1 : Int32)) = (1 : Int32) from by decide]
  refine own_by (T' := T3) (g' := (mkF m 3 #[.val (.ref b), .val (.int (1 : Int32)), .val (.ref d), .val (.int (1 : Int32)), .val (.int (2 : Int32)), .val (.int (1 : Int32)), .val (.int c0)] [])) (fun _ kt_ => XS.goto X3.here hx rfl (pc0 := 41) (pc' := 3) rfl (hb hby own_d6_41) (by decide) (by decide) kt_) ?_
  refine own_by (T' := T3) (g' := (mkF m 5 #[.val (.ref b), .val (.int (1 : Int32)), .val (.ref d), .val (.int (1 : Int32)), .val (.int (2 : Int32)), .val (.int (1 : Int32)), .val (.int c0)] [(.int (1 : Int32))])) (fun _ kt_ => XS.iload X3.here hx rfl (hb hby own_d6_3) rfl kt_) ?_
  refine own_by (T' := T3) (g' := (mkF m 7 #[.val (.ref b), .val (.int (1 : Int32)), .val (.ref d), .val (.int (1 : Int32)), .val (.int (2 : Int32)), .val (.int (1 : Int32)), .val (.int c0)] [(.int (2 : Int32)), (.int (1 : Int32))])) (fun _ kt_ => XS.iload X3.here hx rfl (hb hby own_d6_5) rfl kt_) ?_
  refine own_by (T' := T3) (g' := (mkF m 10 #[.val (.ref b), .val (.int (1 : Int32)), .val (.ref d), .val (.int (1 : Int32)), .val (.int (2 : Int32)), .val (.int (1 : Int32)), .val (.int c0)] [])) (fun _ kt_ => XS.icmpNo X3.here hx rfl (hb hby own_d6_7) rfl (XT.ii_ge_f (by decide)) kt_) ?_
  refine own_by (T' := T3) (g' := (mkF m 11 #[.val (.ref b), .val (.int (1 : Int32)), .val (.ref d), .val (.int (1 : Int32)), .val (.int (2 : Int32)), .val (.int (1 : Int32)), .val (.int c0)] [(.ref b)])) (fun _ kt_ => XS.aloadN X3.here hx rfl (hb hby own_d6_10) rfl rfl kt_) ?_
  refine own_by (T' := T3) (g' := (mkF m 12 #[.val (.ref b), .val (.int (1 : Int32)), .val (.ref d), .val (.int (1 : Int32)), .val (.int (2 : Int32)), .val (.int (1 : Int32)), .val (.int c0)] [(.int (1 : Int32)), (.ref b)])) (fun _ kt_ => XS.iloadN X3.here hx rfl (hb hby own_d6_11) rfl kt_) ?_
  have f10 : Arv Z h3 b kC .char (2 : Int32) [(.int c0), (.int c1)] (.int (0 : Int32)) := (Vb.keep K4 (ninS ne1 nin0))
  obtain ⟨cl9, Ar9, q9, S9, M9, H9, G9⟩ := id f10
  have hin9 : ¬ ((1 : Int32) < 0 ∨ cl9.slots.size ≤ ((1 : Int32)).toNatClampNeg) := inb_of S9 ⟨by decide, by decide⟩
  have hat9 : cl9.slots[((1 : Int32)).toNatClampNeg]? = some (.int c1) := H9.at hin9 rfl
  refine own_by (T' := T3) (g' := (mkF m 13 #[.val (.ref b), .val (.int (1 : Int32)), .val (.ref d), .val (.int (1 : Int32)), .val (.int (2 : Int32)), .val (.int (1 : Int32)), .val (.int c0)] [(.int c1)])) (fun _ kt_ => X3.caload hx (j := (1 : Int32)) (v := (.int c1)) (by rw [e3]; exact Ar9.1) (State.isArrayOf_alike hZ.alike Ar9.2.1) Ar9.2.2 hin9 hat9 (g := (mkF m 12 #[.val (.ref b), .val (.int (1 : Int32)), .val (.ref d), .val (.int (1 : Int32)), .val (.int (2 : Int32)), .val (.int (1 : Int32)), .val (.int c0)] [(.int (1 : Int32)), (.ref b)])) rfl rfl (hb hby own_d6_12) _ kt_) ?_
  refine own_by (T' := T3) (g' := (mkF m 15 #[.val (.ref b), .val (.int (1 : Int32)), .val (.ref d), .val (.int (1 : Int32)), .val (.int (2 : Int32)), .val (.int (1 : Int32)), .val (.int c1)] [])) (fun _ kt_ => XS.istore X3.here hx rfl (hb hby own_d6_13) rfl (l' := #[.val (.ref b), .val (.int (1 : Int32)), .val (.ref d), .val (.int (1 : Int32)), .val (.int (2 : Int32)), .val (.int (1 : Int32)), .val (.int c1)]) rfl kt_) ?_
  refine own_by (T' := T3) (g' := (mkF m 17 #[.val (.ref b), .val (.int (1 : Int32)), .val (.ref d), .val (.int (1 : Int32)), .val (.int (2 : Int32)), .val (.int (1 : Int32)), .val (.int c1)] [(.int c1)])) (fun _ kt_ => XS.iload X3.here hx rfl (hb hby own_d6_15) rfl kt_) ?_
  refine own_by (T' := T3) (g' := (mkF m 20 #[.val (.ref b), .val (.int (1 : Int32)), .val (.ref d), .val (.int (1 : Int32)), .val (.int (2 : Int32)), .val (.int (1 : Int32)), .val (.int c1)] [(.int (255 : Int32)), (.int c1)])) (fun _ kt_ => XS.sipush X3.here hx rfl (hb hby own_d6_17) kt_) ?_
  refine own_by (T' := T3) (g' := (mkF m 26 #[.val (.ref b), .val (.int (1 : Int32)), .val (.ref d), .val (.int (1 : Int32)), .val (.int (2 : Int32)), .val (.int (1 : Int32)), .val (.int c1)] [])) (fun _ kt_ => XS.icmpYes X3.here hx rfl (pc0 := 20) (pc' := 26) rfl (hb hby own_d6_20) rfl (XT.ii_le_t hp1) (by decide) (by decide) kt_) ?_
  refine own_by (T' := T3) (g' := (mkF m 27 #[.val (.ref b), .val (.int (1 : Int32)), .val (.ref d), .val (.int (1 : Int32)), .val (.int (2 : Int32)), .val (.int (1 : Int32)), .val (.int c1)] [(.ref d)])) (fun _ kt_ => XS.aloadN X3.here hx rfl (hb hby own_d6_26) rfl rfl kt_) ?_
  refine own_by (T' := T3) (g' := (mkF m 28 #[.val (.ref b), .val (.int (1 : Int32)), .val (.ref d), .val (.int (1 : Int32)), .val (.int (2 : Int32)), .val (.int (1 : Int32)), .val (.int c1)] [(.int (1 : Int32)), (.ref d)])) (fun _ kt_ => XS.iloadN X3.here hx rfl (hb hby own_d6_27) rfl kt_) ?_
  refine own_by (T' := T3) (g' := (mkF m 30 #[.val (.ref b), .val (.int (1 : Int32)), .val (.ref d), .val (.int (1 : Int32)), .val (.int (2 : Int32)), .val (.int (1 : Int32)), .val (.int c1)] [(.int c1), (.int (1 : Int32)), (.ref d)])) (fun _ kt_ => XS.iload X3.here hx rfl (hb hby own_d6_28) rfl kt_) ?_
  refine own_by (T' := T3) (g' := (mkF m 31 #[.val (.ref b), .val (.int (1 : Int32)), .val (.ref d), .val (.int (1 : Int32)), .val (.int (2 : Int32)), .val (.int (1 : Int32)), .val (.int c1)] [(.int c1.toInt8.toInt32), (.int (1 : Int32)), (.ref d)])) (fun _ kt_ => XS.i2b X3.here hx rfl (hb hby own_d6_30) rfl kt_) ?_
  obtain ⟨cl11, Ar11, q11, S11, M11, H11, G11⟩ := id f7
  have hin11 : ¬ ((1 : Int32) < 0 ∨ cl11.slots.size ≤ ((1 : Int32)).toNatClampNeg) := inb_of S11 ⟨by decide, by decide⟩
  obtain ⟨T11, h11, X11, e11, W11, st11⟩ := stB X3 hx hZ e3 Ar11 (j := (1 : Int32)) hin11 (g := (mkF m 31 #[.val (.ref b), .val (.int (1 : Int32)), .val (.ref d), .val (.int (1 : Int32)), .val (.int (2 : Int32)), .val (.int (1 : Int32)), .val (.int c1)] [(.int c1.toInt8.toInt32), (.int (1 : Int32)), (.ref d)])) rfl rfl (hb hby own_d6_31)
  rw [show nar .byte c1.toInt8.toInt32 = c1.toInt8.toInt32 from own_narB _] at W11
  have K12 : Keep h3 h11 [d] := Keep.of_wr W11
  have zzK12 : h3.size ≤ h11.size := K12.1
  have oo13 : Old Z n0 h11 := oo5.keep K12 (allS (by omega : n0 ≤ d) all0)
  have kt14 : Keep h0 h11 [d] := kt6.trans K12 (allS (Or.inl (List.mem_of_getElem? (i := 0) rfl)) all0)
  have f15 : Arv Z h11 d kB .byte (2 : Int32) [(.int c0.toInt8.toInt32), (.int c1.toInt8.toInt32)] (.int (0 : Int32)) := Arv.set Ar11 q11 S11 M11 H11 G11 (fits_nar_byte _) W11 1 rfl (Nat.le_of_ble_eq_true rfl)
  have N16 := Fr.snoc X11 N8 (by omega : n0 ≤ d)
  refine own_by (T' := T11) (g' := (mkF m 32 #[.val (.ref b), .val (.int (1 : Int32)), .val (.ref d), .val (.int (1 : Int32)), .val (.int (2 : Int32)), .val (.int (1 : Int32)), .val (.int c1)] [])) st11 ?_
  refine own_by (T' := T11) (g' := (mkF m 35 #[.val (.ref b), .val (.int ((1 : Int32) + (1 : Int32))), .val (.ref d), .val (.int (1 : Int32)), .val (.int (2 : Int32)), .val (.int (1 : Int32)), .val (.int c1)] [])) (fun _ kt_ => XS.iinc X11.here hx rfl (hb hby own_d6_32) rfl (l' := #[.val (.ref b), .val (.int ((1 : Int32) + (1 : Int32))), .val (.ref d), .val (.int (1 : Int32)), .val (.int (2 : Int32)), .val (.int (1 : Int32)), .val (.int c1)]) rfl kt_) ?_
  rw [show ((1 : Int32) + (1 : Int32)) = (2 : Int32) from by decide]
  refine own_by (T' := T11) (g' := (mkF m 38 #[.val (.ref b), .val (.int (2 : Int32)), .val (.ref d), .val (.int ((1 : Int32) + (1 : Int32))), .val (.int (2 : Int32)), .val (.int (1 : Int32)), .val (.int c1)] [])) (fun _ kt_ => XS.iinc X11.here hx rfl (hb hby own_d6_35) rfl (l' := #[.val (.ref b), .val (.int (2 : Int32)), .val (.ref d), .val (.int ((1 : Int32) + (1 : Int32))), .val (.int (2 : Int32)), .val (.int (1 : Int32)), .val (.int c1)]) rfl kt_) ?_
  rw [show ((1 : Int32) + (1 : Int32)) = (2 : Int32) from by decide]
  refine own_by (T' := T11) (g' := (mkF m 41 #[.val (.ref b), .val (.int (2 : Int32)), .val (.ref d), .val (.int (2 : Int32)), .val (.int (2 : Int32)), .val (.int ((1 : Int32) + (1 : Int32))), .val (.int c1)] [])) (fun _ kt_ => XS.iinc X11.here hx rfl (hb hby own_d6_38) rfl (l' := #[.val (.ref b), .val (.int (2 : Int32)), .val (.ref d), .val (.int (2 : Int32)), .val (.int (2 : Int32)), .val (.int ((1 : Int32) + (1 : Int32))), .val (.int c1)]) rfl kt_) ?_
  rw [show ((1 : Int32) + (1 : Int32)) = (2 : Int32) from by decide]
  refine own_by (T' := T11) (g' := (mkF m 3 #[.val (.ref b), .val (.int (2 : Int32)), .val (.ref d), .val (.int (2 : Int32)), .val (.int (2 : Int32)), .val (.int (2 : Int32)), .val (.int c1)] [])) (fun _ kt_ => XS.goto X11.here hx rfl (pc0 := 41) (pc' := 3) rfl (hb hby own_d6_41) (by decide) (by decide) kt_) ?_
  refine own_by (T' := T11) (g' := (mkF m 5 #[.val (.ref b), .val (.int (2 : Int32)), .val (.ref d), .val (.int (2 : Int32)), .val (.int (2 : Int32)), .val (.int (2 : Int32)), .val (.int c1)] [(.int (2 : Int32))])) (fun _ kt_ => XS.iload X11.here hx rfl (hb hby own_d6_3) rfl kt_) ?_
  refine own_by (T' := T11) (g' := (mkF m 7 #[.val (.ref b), .val (.int (2 : Int32)), .val (.ref d), .val (.int (2 : Int32)), .val (.int (2 : Int32)), .val (.int (2 : Int32)), .val (.int c1)] [(.int (2 : Int32)), (.int (2 : Int32))])) (fun _ kt_ => XS.iload X11.here hx rfl (hb hby own_d6_5) rfl kt_) ?_
  refine own_by (T' := T11) (g' := (mkF m 44 #[.val (.ref b), .val (.int (2 : Int32)), .val (.ref d), .val (.int (2 : Int32)), .val (.int (2 : Int32)), .val (.int (2 : Int32)), .val (.int c1)] [])) (fun _ kt_ => XS.icmpYes X11.here hx rfl (pc0 := 7) (pc' := 44) rfl (hb hby own_d6_7) rfl (XT.ii_ge_t (by decide)) (by decide) (by decide) kt_) ?_
  refine own_by (T' := T11) (g' := (mkF m 46 #[.val (.ref b), .val (.int (2 : Int32)), .val (.ref d), .val (.int (2 : Int32)), .val (.int (2 : Int32)), .val (.int (2 : Int32)), .val (.int c1)] [(.int (2 : Int32))])) (fun _ kt_ => XS.iload X11.here hx rfl (hb hby own_d6_44) rfl kt_) ?_
  obtain ⟨fs17, hr17, hrun17, hended17, hW17, hsame17⟩ := X11.leave (v := some (.int (2 : Int32))) (fun h => by rw [Bd.returns] at h; cases h)
  refine ⟨_, _, retOut X11 hx (t := .int) Bd.returns rfl (Or.inl ⟨rfl, Or.inl rfl, _, rfl⟩) (hb hby own_d6_46) hr17, hrun17, hended17, _, _, rfl, ?_, ⟨_, rfl⟩, hW17, hsame17.mono (by decide) (by decide)⟩
  show Q_rmC5_2 Z zC b d kC kB c0 c1 h0 n0 _ T11.heap _
  rw [e11]
  exact ⟨rfl, N16, kt14, f15⟩
theorem own_ef_rmC3_2 (m : MethodId) (x0 : Addr) (x1 : Int32) (x2 : Int32) : entryFrame m #[(.ref x0), (.int x1), (.int x2)] 6 = mkF m 0 #[.val (.ref x0), .val (.int x1), .val (.int x2), .unset, .unset, .unset] [] := by first | (simp [entryFrame, mkF, argsToLocals, Value.category]; done) | rfl
def Q_rmC3_2 (Z : State) (zC : Int32) (b : Addr) (kC : ClassId) (c0 : Int32) (c1 : Int32) (h0 : Heap) (n0 : Nat) (vv_ : Option Value) (hh_ : Heap) (LL_ : List Loc) : Prop := ∃ d : Addr, ∃ kB : ClassId, vv_ = some (.ref d) ∧ Fr n0 LL_ ∧ Keep h0 hh_ [] ∧ h0.size ≤ d ∧ Arv Z hh_ d kB .byte (2 : Int32) [(.int c0.toInt8.toInt32), (.int c1.toInt8.toInt32)] (.int (0 : Int32))
set_option maxRecDepth 65536 in
set_option maxHeartbeats 40000000 in
theorem rmC3_2 (l : Launch) (Z : State) (a0 : Array Value) (hw : ∀ d ∈ tables_1, d.before a0 Z = true) (ws : List Jvm.Cond) (zC : Int32) (GS : Glob Z zC) (b : Addr) (kC : ClassId) (c0 : Int32) (c1 : Int32) (h0 : Heap) (n0 : Nat) (Z0 : n0 ≤ h0.size) (O0 : Old Z n0 h0) (Vb : Arv Z h0 b kC .char (2 : Int32) [(.int c0), (.int c1)] (.int (0 : Int32))) (hp0 : ¬ (255 : Int32) < c0) (hp1 : ¬ (255 : Int32) < c1) :
    MetFree l (⟨"java/lang/StringUTF16", "compress", "([CII)[B"⟩ : MethodName) (head1 (Jvm.Cond.code (⟨"java/lang/StringUTF16", "compress", "([CII)[B"⟩ : MethodName) jdk_52_method_16_code 6 (some (.array .byte)) :: ws) ({ frames := 1, cells := 1, slots := 2, locals := 18 } : Room)) (fun aa_ UU_ => aa_ = #[(.ref b), (.int (0 : Int32)), (.int (2 : Int32))] ∧ Z.Warmed39 UU_.vm ∧ UU_.heap = h0) (fun _ _ _ _ _ => True) (fun _ UU_ oo_ UV_ => ∃ vv_ LL_, oo_ = .returned vv_ ∧ Q_rmC3_2 Z zC b kC c0 c1 h0 n0 vv_ UV_.heap LL_ ∧ FrameEnd UU_ oo_ UV_ LL_ ({ frames := 1, cells := 1, slots := 2, locals := 18 } : Room).cells ({ frames := 1, cells := 1, slots := 2, locals := 18 } : Room).slots) := by
  refine MetFree.of_bodySF (plainFor_of_name own_pn_java_lang_StringUTF16) hisR ?_
  intro p e s m args below meth c s₁ Bd hml0 hP hK
  obtain ⟨rfl, hZ, hh⟩ := hP
  have hx := Bd.exec
  have hby := Bd.bytes
  have hml : c.maxLocals = 6 := hml0
  have hown : s.vm.findClass "java/lang/StringUTF16" = some m.cls := findClass_of_methodNamed Bd.named
  have hnm := (name_of_methodNamed Bd.named Bd.method).1
  have X0 : Stand p l e ({ frames := 1, cells := 1, slots := 2, locals := 18 } : Room) s m #[(.ref b), (.int (0 : Int32)), (.int (2 : Int32))] below meth c s₁ [] 0 0 := Stand.of_body Bd
  have e0 : s₁.heap = h0 := by rw [← hh, Bd.state]; rfl
  have N0 := Fr.nil n0
  have hn0 : Z.heap.size = n0 := O0.1
  have KT0 : Keep h0 h0 [] := Keep.refl _ _
  refine own_enter (Φ := fun oo_ UV_ => ∃ vv_ LL_, oo_ = .returned vv_ ∧ Q_rmC3_2 Z zC b kC c0 c1 h0 n0 vv_ UV_.heap LL_ ∧ FrameEnd s oo_ UV_ LL_ ({ frames := 1, cells := 1, slots := 2, locals := 18 } : Room).cells ({ frames := 1, cells := 1, slots := 2, locals := 18 } : Room).slots) (own_ef_rmC3_2 m b (0 : Int32) (2 : Int32)) ?_
  refine own_by (T' := s₁) (g' := (mkF m 1 #[.val (.ref b), .val (.int (0 : Int32)), .val (.int (2 : Int32)), .unset, .unset, .unset] [(.int (2 : Int32))])) (fun _ kt_ => XS.iloadN X0.here hx rfl (hb hby own_d5_0) rfl kt_) ?_
  obtain ⟨T1, h1, k1, X1, e1, E1, A1, st1⟩ := newP X0 hx hZ (hw _ (List.mem_of_getElem? (i := 23) rfl)) e0 (g := (mkF m 1 #[.val (.ref b), .val (.int (0 : Int32)), .val (.int (2 : Int32)), .unset, .unset, .unset] [(.int (2 : Int32))])) rfl (hb hby own_d5_1) rfl (by decide) (cap := 2) (by decide) (by decide) (by decide) (by decide)
  obtain ⟨b1, g1⟩ : ∃ z, z = h0.size := ⟨_, rfl⟩
  rw [← g1] at A1 st1
  have K2 : Keep h0 h1 [] := own_kext E1
  have zzK2 : h0.size ≤ h1.size := K2.1
  have oo3 : Old Z n0 h1 := O0.keep K2 all0
  have kt4 : Keep h0 h1 [] := KT0.trans K2 all0
  have lab1 : b1 < h1.size := A1.lt
  have f5 : Arv Z h1 b1 k1 .byte (2 : Int32) [(.int (0 : Int32)), (.int (0 : Int32))] (.int (0 : Int32)) := (Arv.new A1 (by decide)).pad (pad_rep [] (.int (0 : Int32)) 2)
  refine own_by (T' := T1) (g' := (mkF m 3 #[.val (.ref b), .val (.int (0 : Int32)), .val (.int (2 : Int32)), .unset, .unset, .unset] [(.ref b1)])) st1 ?_
  refine own_by (T' := T1) (g' := (mkF m 4 #[.val (.ref b), .val (.int (0 : Int32)), .val (.int (2 : Int32)), .val (.ref b1), .unset, .unset] [])) (fun _ kt_ => XS.astoreN X1.here hx rfl (hb hby own_d5_3) rfl rfl (l' := #[.val (.ref b), .val (.int (0 : Int32)), .val (.int (2 : Int32)), .val (.ref b1), .unset, .unset]) rfl kt_) ?_
  refine own_by (T' := T1) (g' := (mkF m 5 #[.val (.ref b), .val (.int (0 : Int32)), .val (.int (2 : Int32)), .val (.ref b1), .unset, .unset] [(.ref b)])) (fun _ kt_ => XS.aloadN X1.here hx rfl (hb hby own_d5_4) rfl rfl kt_) ?_
  refine own_by (T' := T1) (g' := (mkF m 6 #[.val (.ref b), .val (.int (0 : Int32)), .val (.int (2 : Int32)), .val (.ref b1), .unset, .unset] [(.int (0 : Int32)), (.ref b)])) (fun _ kt_ => XS.iloadN X1.here hx rfl (hb hby own_d5_5) rfl kt_) ?_
  refine own_by (T' := T1) (g' := (mkF m 7 #[.val (.ref b), .val (.int (0 : Int32)), .val (.int (2 : Int32)), .val (.ref b1), .unset, .unset] [(.ref b1), (.int (0 : Int32)), (.ref b)])) (fun _ kt_ => XS.aloadN X1.here hx rfl (hb hby own_d5_6) rfl rfl kt_) ?_
  refine own_by (T' := T1) (g' := (mkF m 8 #[.val (.ref b), .val (.int (0 : Int32)), .val (.int (2 : Int32)), .val (.ref b1), .unset, .unset] [(.int (0 : Int32)), (.ref b1), (.int (0 : Int32)), (.ref b)])) (fun _ kt_ => XS.iconst X1.here hx rfl (hb hby own_d5_7) kt_) ?_
  refine own_by (T' := T1) (g' := (mkF m 9 #[.val (.ref b), .val (.int (0 : Int32)), .val (.int (2 : Int32)), .val (.ref b1), .unset, .unset] [(.int (2 : Int32)), (.int (0 : Int32)), (.ref b1), (.int (0 : Int32)), (.ref b)])) (fun _ kt_ => XS.iloadN X1.here hx rfl (hb hby own_d5_8) rfl kt_) ?_
  have f6 : Arv Z h1 b kC .char (2 : Int32) [(.int c0), (.int c1)] (.int (0 : Int32)) := (Vb.keep K2 nin0)
  have la7 : @LT.lt Nat instLTNat b h0.size := Vb.lt
  have ne8 : @Ne Nat b b1 := by omega
  obtain ⟨_, _, ⟨T9, L9, k9, n9⟩, -, X9, ⟨Lc9, hQ9, l9, y9, z9⟩, st9⟩ := Jvm.LawKit.callS X1 hx (y := (⟨"java/lang/StringUTF16", "compress", "([CI[BII)I"⟩ : MethodName)) hown (mvT hZ (hw _ (List.mem_of_getElem? (i := 24) rfl))) (mvT hZ (hw _ (List.mem_of_getElem? (i := 25) rfl))) (mvT hZ (hw _ (List.mem_of_getElem? (i := 21) rfl))) (mvT hZ (hw _ (List.mem_of_getElem? (i := 26) rfl))) (by decide) (backOf (W := 0) (rmC5_2 l Z a0 hw [] zC GS b b1 kC k1 c0 c1 h1 n0 (by omega) oo3 f6 f5 (by omega) ne8 hp0 hp1) hZ (hw _ (List.mem_of_getElem? (i := 26) rfl)) (hw _ (List.mem_of_getElem? (i := 21) rfl)) (by decide) (by decide)) (g := (mkF m 9 #[.val (.ref b), .val (.int (0 : Int32)), .val (.int (2 : Int32)), .val (.ref b1), .unset, .unset] [(.int (2 : Int32)), (.int (0 : Int32)), (.ref b1), (.int (0 : Int32)), (.ref b)])) rfl (by rw [hml]; rfl) (argsL := [(.ref b), (.int (0 : Int32)), (.ref b1), (.int (0 : Int32)), (.int (2 : Int32))]) (rest := []) (lenOf own_pd_0 rfl) rfl (by show 2 * 0 + _ ≤ _; exact Nat.le_of_eq rfl) (hb hby own_d5_9) (fun _ _ => ⟨rfl, e1, (by decide : 1 + 0 ≤ _), (by decide : 2 + 0 ≤ _)⟩)
  dsimp only [Pt.U, Pt.locs, Pt.cells, Pt.slots] at X9 l9 y9 z9 st9 hQ9
  subst l9 y9 z9
  obtain ⟨rfl, N9q, K9, p9_0⟩ := hQ9
  have N10 := Fr.app N0 N9q
  have zzK9 : h1.size ≤ T9.heap.size := K9.1
  have oo11 : Old Z n0 T9.heap := oo3.keep K9 (allS (by omega : n0 ≤ b1) all0)
  have kt12 : Keep h0 T9.heap [] := kt4.trans K9 (allS (Or.inr (by omega : h0.size ≤ b1)) all0)
  refine own_by (T' := T9) (g' := (mkF m 12 #[.val (.ref b), .val (.int (0 : Int32)), .val (.int (2 : Int32)), .val (.ref b1), .unset, .unset] [(.int (2 : Int32))])) st9 ?_
  refine own_by (T' := T9) (g' := (mkF m 14 #[.val (.ref b), .val (.int (0 : Int32)), .val (.int (2 : Int32)), .val (.ref b1), .val (.int (2 : Int32)), .unset] [])) (fun _ kt_ => XS.istore X9.here hx rfl (hb hby own_d5_12) rfl (l' := #[.val (.ref b), .val (.int (0 : Int32)), .val (.int (2 : Int32)), .val (.ref b1), .val (.int (2 : Int32)), .unset]) rfl kt_) ?_
  refine own_by (T' := T9) (g' := (mkF m 16 #[.val (.ref b), .val (.int (0 : Int32)), .val (.int (2 : Int32)), .val (.ref b1), .val (.int (2 : Int32)), .unset] [(.int (2 : Int32))])) (fun _ kt_ => XS.iload X9.here hx rfl (hb hby own_d5_14) rfl kt_) ?_
  refine own_by (T' := T9) (g' := (mkF m 17 #[.val (.ref b), .val (.int (0 : Int32)), .val (.int (2 : Int32)), .val (.ref b1), .val (.int (2 : Int32)), .unset] [(.int (2 : Int32)), (.int (2 : Int32))])) (fun _ kt_ => XS.iloadN X9.here hx rfl (hb hby own_d5_16) rfl kt_) ?_
  refine own_by (T' := T9) (g' := (mkF m 57 #[.val (.ref b), .val (.int (0 : Int32)), .val (.int (2 : Int32)), .val (.ref b1), .val (.int (2 : Int32)), .unset] [])) (fun _ kt_ => XS.icmpYes X9.here hx rfl (pc0 := 17) (pc' := 57) rfl (hb hby own_d5_17) rfl (XT.ii_eq_t (by decide)) (by decide) (by decide) kt_) ?_
  refine own_by (T' := T9) (g' := (mkF m 58 #[.val (.ref b), .val (.int (0 : Int32)), .val (.int (2 : Int32)), .val (.ref b1), .val (.int (2 : Int32)), .unset] [(.ref b1)])) (fun _ kt_ => XS.aloadN X9.here hx rfl (hb hby own_d5_57) rfl rfl kt_) ?_
  obtain ⟨fs13, hr13, hrun13, hended13, hW13, hsame13⟩ := X9.leave (v := some (.ref b1)) (fun h => by rw [Bd.returns] at h; cases h)
  refine ⟨_, _, retOut X9 hx (t := (.array .byte)) Bd.returns rfl (Or.inr (Or.inr (Or.inr (Or.inr ⟨rfl, rfl, rfl⟩)))) (hb hby own_d5_58) hr13, hrun13, hended13, _, _, rfl, ?_, ⟨_, rfl⟩, hW13, hsame13.mono (by decide) (by decide)⟩
  show Q_rmC3_2 Z zC b kC c0 c1 h0 n0 _ T9.heap _
  exact ⟨b1, k1, rfl, N10, kt12, (by omega), p9_0⟩
theorem own_ef_rmCod_2 (m : MethodId) (x0 : Addr) (x1 : Int32) : entryFrame m #[(.ref x0), (.int x1)] 2 = mkF m 0 #[.val (.ref x0), .val (.int x1)] [] := by first | (simp [entryFrame, mkF, argsToLocals, Value.category]; done) | rfl
def Q_rmCod_2 (Z : State) (zC : Int32) (d : Addr) (kB : ClassId) (b0 : Int32) (b1 : Int32) (h0 : Heap) (n0 : Nat) (vv_ : Option Value) (hh_ : Heap) (LL_ : List Loc) : Prop := vv_ = some (.int (0 : Int32)) ∧ Fr n0 LL_ ∧ hh_ = h0
set_option maxRecDepth 65536 in
set_option maxHeartbeats 40000000 in
theorem rmCod_2 (l : Launch) (Z : State) (a0 : Array Value) (hw : ∀ d ∈ tables_1, d.before a0 Z = true) (ws : List Jvm.Cond) (zC : Int32) (GS : Glob Z zC) (d : Addr) (kB : ClassId) (b0 : Int32) (b1 : Int32) (h0 : Heap) (n0 : Nat) (Z0 : n0 ≤ h0.size) (O0 : Old Z n0 h0) (Vd : Arv Z h0 d kB .byte (2 : Int32) [(.int b0), (.int b1)] (.int (0 : Int32))) :
    MetFree l (⟨"java/lang/StringUTF16", "coderFromArrayLen", "([BI)B"⟩ : MethodName) (head1 (Jvm.Cond.code (⟨"java/lang/StringUTF16", "coderFromArrayLen", "([BI)B"⟩ : MethodName) jdk_52_method_15_code 2 (some .byte) :: ws) ({ frames := 0, cells := 0, slots := 0, locals := 0 } : Room)) (fun aa_ UU_ => aa_ = #[(.ref d), (.int (2 : Int32))] ∧ Z.Warmed39 UU_.vm ∧ UU_.heap = h0) (fun _ _ _ _ _ => True) (fun _ UU_ oo_ UV_ => ∃ vv_ LL_, oo_ = .returned vv_ ∧ Q_rmCod_2 Z zC d kB b0 b1 h0 n0 vv_ UV_.heap LL_ ∧ FrameEnd UU_ oo_ UV_ LL_ ({ frames := 0, cells := 0, slots := 0, locals := 0 } : Room).cells ({ frames := 0, cells := 0, slots := 0, locals := 0 } : Room).slots) := by
  refine MetFree.of_bodySF (plainFor_of_name own_pn_java_lang_StringUTF16) hisR ?_
  intro p e s m args below meth c s₁ Bd hml0 hP hK
  obtain ⟨rfl, hZ, hh⟩ := hP
  have hx := Bd.exec
  have hby := Bd.bytes
  have hml : c.maxLocals = 2 := hml0
  have hown : s.vm.findClass "java/lang/StringUTF16" = some m.cls := findClass_of_methodNamed Bd.named
  have hnm := (name_of_methodNamed Bd.named Bd.method).1
  have X0 : Stand p l e ({ frames := 0, cells := 0, slots := 0, locals := 0 } : Room) s m #[(.ref d), (.int (2 : Int32))] below meth c s₁ [] 0 0 := Stand.of_body Bd
  have e0 : s₁.heap = h0 := by rw [← hh, Bd.state]; rfl
  have N0 := Fr.nil n0
  have hn0 : Z.heap.size = n0 := O0.1
  have KT0 : Keep h0 h0 [] := Keep.refl _ _
  refine own_enter (Φ := fun oo_ UV_ => ∃ vv_ LL_, oo_ = .returned vv_ ∧ Q_rmCod_2 Z zC d kB b0 b1 h0 n0 vv_ UV_.heap LL_ ∧ FrameEnd s oo_ UV_ LL_ ({ frames := 0, cells := 0, slots := 0, locals := 0 } : Room).cells ({ frames := 0, cells := 0, slots := 0, locals := 0 } : Room).slots) (own_ef_rmCod_2 m d (2 : Int32)) ?_
  refine own_by (T' := s₁) (g' := (mkF m 1 #[.val (.ref d), .val (.int (2 : Int32))] [(.int (2 : Int32))])) (fun _ kt_ => XS.iloadN X0.here hx rfl (hb hby own_d7_0) rfl kt_) ?_
  refine own_by (T' := s₁) (g' := (mkF m 2 #[.val (.ref d), .val (.int (2 : Int32))] [(.ref d), (.int (2 : Int32))])) (fun _ kt_ => XS.aloadN X0.here hx rfl (hb hby own_d7_1) rfl rfl kt_) ?_
  obtain ⟨cl1, Ar1, q1, S1, M1, H1, G1⟩ := id Vd
  refine own_by (T' := s₁) (g' := (mkF m 3 #[.val (.ref d), .val (.int (2 : Int32))] [(.int (2 : Int32)), (.int (2 : Int32))])) (fun _ kt_ => X0.arraylength hx (by rw [e0]; exact Ar1.1) (State.isArrayOf_alike hZ.alike Ar1.2.1) (g := (mkF m 2 #[.val (.ref d), .val (.int (2 : Int32))] [(.ref d), (.int (2 : Int32))])) rfl rfl (hb hby own_d7_2) _ (by rw [len_of S1 M1]; exact kt_)) ?_
  refine own_by (T' := s₁) (g' := (mkF m 4 #[.val (.ref d), .val (.int (2 : Int32))] [(.int ((2 : Int32) - (2 : Int32)))])) (fun _ kt_ => XS.isub X0.here hx rfl (hb hby own_d7_3) rfl kt_) ?_
  rw [show ((2 : Int32) - (2 : Int32)) = (0 : Int32) from by decide]
  refine own_by (T' := s₁) (g' := (mkF m 6 #[.val (.ref d), .val (.int (2 : Int32))] [(.int (31 : Int32)), (.int (0 : Int32))])) (fun _ kt_ => XS.bipush X0.here hx rfl (hb hby own_d7_4) kt_) ?_
  refine own_by (T' := s₁) (g' := (mkF m 7 #[.val (.ref d), .val (.int (2 : Int32))] [(.int (((0 : Int32).toUInt32 >>> ((31 : Int32) &&& 31).toUInt32).toInt32))])) (fun _ kt_ => XS.iushr X0.here hx rfl (hb hby own_d7_6) rfl kt_) ?_
  refine own_by (T' := s₁) (g' := (mkF m 8 #[.val (.ref d), .val (.int (2 : Int32))] [(.int (((0 : Int32).toUInt32 >>> ((31 : Int32) &&& 31).toUInt32).toInt32).toInt8.toInt32)])) (fun _ kt_ => XS.i2b X0.here hx rfl (hb hby own_d7_7) rfl kt_) ?_
  have hn2 : nar .byte ((((0 : Int32).toUInt32 >>> ((31 : Int32) &&& 31).toUInt32).toInt32).toInt8.toInt32) = (((0 : Int32).toUInt32 >>> ((31 : Int32) &&& 31).toUInt32).toInt32).toInt8.toInt32 := by decide
  have hr3 : (((0 : Int32).toUInt32 >>> ((31 : Int32) &&& 31).toUInt32).toInt32).toInt8.toInt32 = (0 : Int32) := by decide
  obtain ⟨fs4, hr4, hrun4, hended4, hW4, hsame4⟩ := X0.leave (v := some (.int (nar .byte ((((0 : Int32).toUInt32 >>> ((31 : Int32) &&& 31).toUInt32).toInt32).toInt8.toInt32)))) (fun h => by rw [Bd.returns] at h; cases h)
  refine ⟨_, _, retN X0 hx (t := .byte) Bd.returns (by simp) (hb hby own_d7_8) hr4, hrun4, hended4, _, _, rfl, ?_, ⟨_, rfl⟩, hW4, hsame4.mono (by decide) (by decide)⟩
  show Q_rmCod_2 Z zC d kB b0 b1 h0 n0 _ s₁.heap _
  exact ⟨(congrArg (fun z => some (Value.int z)) (hn2.trans hr3)), N0, e0⟩
theorem own_ef_rmS4_2 (m : MethodId) (x0 : Addr) (x1 : Addr) (x2 : Int32) (x3 : Int32) : entryFrame m #[(.ref x0), (.ref x1), (.int x2), (.int x3), .null] 6 = mkF m 0 #[.val (.ref x0), .val (.ref x1), .val (.int x2), .val (.int x3), .val .null, .unset] [] := by first | (simp [entryFrame, mkF, argsToLocals, Value.category]; done) | rfl
def Q_rmS4_2 (Z : State) (zC : Int32) (x : Addr) (b : Addr) (kC : ClassId) (c0 : Int32) (c1 : Int32) (h0 : Heap) (n0 : Nat) (vv_ : Option Value) (hh_ : Heap) (LL_ : List Loc) : Prop := ∃ t : Addr, ∃ kB : ClassId, vv_ = none ∧ Fr n0 LL_ ∧ Keep h0 hh_ [x] ∧ h0.size ≤ t ∧ Fld Z hh_ x "java/lang/String" "value" "[B" (.ref t) ∧ Fld Z hh_ x "java/lang/String" "coder" "B" (.int (0 : Int32)) ∧ Arv Z hh_ t kB .byte (2 : Int32) [(.int c0.toInt8.toInt32), (.int c1.toInt8.toInt32)] (.int (0 : Int32))
set_option maxRecDepth 65536 in
set_option maxHeartbeats 40000000 in
theorem rmS4_2 (l : Launch) (Z : State) (a0 : Array Value) (hw : ∀ d ∈ tables_1, d.before a0 Z = true) (ws : List Jvm.Cond) (zC : Int32) (GS : Glob Z zC) (x : Addr) (b : Addr) (kC : ClassId) (c0 : Int32) (c1 : Int32) (h0 : Heap) (n0 : Nat) (Z0 : n0 ≤ h0.size) (O0 : Old Z n0 h0) (E_x : Exa Z h0 x "java/lang/String") (g_x : n0 ≤ x) (Fv : Fld Z h0 x "java/lang/String" "value" "[B" .null) (Fc : Fld Z h0 x "java/lang/String" "coder" "B" (.int (0 : Int32))) (Vb : Arv Z h0 b kC .char (2 : Int32) [(.int c0), (.int c1)] (.int (0 : Int32))) (hbx : b ≠ x) (hp0 : ¬ (255 : Int32) < c0) (hp1 : ¬ (255 : Int32) < c1) :
    MetFree l (⟨"java/lang/String", "<init>", "([CIILjava/lang/Void;)V"⟩ : MethodName) (head1 (Jvm.Cond.code (⟨"java/lang/String", "<init>", "([CIILjava/lang/Void;)V"⟩ : MethodName) jdk_42_method_149_code 6 none :: ws) ({ frames := 2, cells := 1, slots := 2, locals := 35 } : Room)) (fun aa_ UU_ => aa_ = #[(.ref x), (.ref b), (.int (0 : Int32)), (.int (2 : Int32)), .null] ∧ Z.Warmed39 UU_.vm ∧ UU_.heap = h0) (fun _ _ _ _ _ => True) (fun _ UU_ oo_ UV_ => ∃ vv_ LL_, oo_ = .returned vv_ ∧ Q_rmS4_2 Z zC x b kC c0 c1 h0 n0 vv_ UV_.heap LL_ ∧ FrameEnd UU_ oo_ UV_ LL_ ({ frames := 2, cells := 1, slots := 2, locals := 35 } : Room).cells ({ frames := 2, cells := 1, slots := 2, locals := 35 } : Room).slots) := by
  refine MetFree.of_bodySF (plainFor_of_name own_pn_java_lang_String) hisR ?_
  intro p e s m args below meth c s₁ Bd hml0 hP hK
  obtain ⟨rfl, hZ, hh⟩ := hP
  have hx := Bd.exec
  have hby := Bd.bytes
  have hml : c.maxLocals = 6 := hml0
  have hown : s.vm.findClass "java/lang/String" = some m.cls := findClass_of_methodNamed Bd.named
  have hnm := (name_of_methodNamed Bd.named Bd.method).1
  have X0 : Stand p l e ({ frames := 2, cells := 1, slots := 2, locals := 35 } : Room) s m #[(.ref x), (.ref b), (.int (0 : Int32)), (.int (2 : Int32)), .null] below meth c s₁ [] 0 0 := Stand.of_body Bd
  have e0 : s₁.heap = h0 := by rw [← hh, Bd.state]; rfl
  have N0 := Fr.nil n0
  have hn0 : Z.heap.size = n0 := O0.1
  have KT0 : Keep h0 h0 [x] := Keep.refl _ _
  refine own_enter (Φ := fun oo_ UV_ => ∃ vv_ LL_, oo_ = .returned vv_ ∧ Q_rmS4_2 Z zC x b kC c0 c1 h0 n0 vv_ UV_.heap LL_ ∧ FrameEnd s oo_ UV_ LL_ ({ frames := 2, cells := 1, slots := 2, locals := 35 } : Room).cells ({ frames := 2, cells := 1, slots := 2, locals := 35 } : Room).slots) (own_ef_rmS4_2 m x b (0 : Int32) (2 : Int32)) ?_
  have ne1 : b ≠ x := hbx
  refine own_by (T' := s₁) (g' := (mkF m 1 #[.val (.ref x), .val (.ref b), .val (.int (0 : Int32)), .val (.int (2 : Int32)), .val .null, .unset] [(.ref x)])) (fun _ kt_ => XS.aloadN X0.here hx rfl (hb hby own_d3_0) rfl rfl kt_) ?_
  obtain ⟨T2, X2, e2, st2⟩ := initO X0 hx hZ hown (hw _ (List.mem_of_getElem? (i := 15) rfl)) (hw _ (List.mem_of_getElem? (i := 16) rfl)) (hw _ (List.mem_of_getElem? (i := 17) rfl)) e0 (g := (mkF m 1 #[.val (.ref x), .val (.ref b), .val (.int (0 : Int32)), .val (.int (2 : Int32)), .val .null, .unset] [(.ref x)])) rfl (by rw [hml]; rfl) rfl (hb hby own_d3_1) (by decide) (W := 0) (by show 2 * 0 + _ ≤ _; exact Nat.le_of_eq rfl) (by decide)
  refine own_by (T' := T2) (g' := (mkF m 4 #[.val (.ref x), .val (.ref b), .val (.int (0 : Int32)), .val (.int (2 : Int32)), .val .null, .unset] [])) st2 ?_
  refine own_by (T' := T2) (g' := (mkF m 5 #[.val (.ref x), .val (.ref b), .val (.int (0 : Int32)), .val (.int (2 : Int32)), .val .null, .unset] [(.int (2 : Int32))])) (fun _ kt_ => XS.iloadN X2.here hx rfl (hb hby own_d3_4) rfl kt_) ?_
  refine own_by (T' := T2) (g' := (mkF m 27 #[.val (.ref x), .val (.ref b), .val (.int (0 : Int32)), .val (.int (2 : Int32)), .val .null, .unset] [])) (fun _ kt_ => XS.ifYes X2.here hx rfl (pc0 := 5) (pc' := 27) rfl (hb hby own_d3_5) rfl (XT.i0_ne_t (by decide)) (by decide) (by decide) kt_) ?_
  have f3 := GS.1.ext O0.2
  obtain ⟨T4, X4, e4, st4⟩ := getS2 X2 hx hZ hown (host := "") (Or.inl (hw _ (List.mem_of_getElem? (i := 18) rfl))) Via.refl e2 f3 (g := (mkF m 27 #[.val (.ref x), .val (.ref b), .val (.int (0 : Int32)), .val (.int (2 : Int32)), .val .null, .unset] [])) rfl (hb hby own_d3_27)
  refine own_by (T' := T4) (g' := (mkF m 30 #[.val (.ref x), .val (.ref b), .val (.int (0 : Int32)), .val (.int (2 : Int32)), .val .null, .unset] [(.int zC)])) st4 ?_
  refine own_by (T' := T4) (g' := (mkF m 33 #[.val (.ref x), .val (.ref b), .val (.int (0 : Int32)), .val (.int (2 : Int32)), .val .null, .unset] [])) (fun _ kt_ => XS.ifNo X4.here hx rfl (hb hby own_d3_30) rfl (XT.i0_eq_f GS.2) kt_) ?_
  refine own_by (T' := T4) (g' := (mkF m 34 #[.val (.ref x), .val (.ref b), .val (.int (0 : Int32)), .val (.int (2 : Int32)), .val .null, .unset] [(.ref b)])) (fun _ kt_ => XS.aloadN X4.here hx rfl (hb hby own_d3_33) rfl rfl kt_) ?_
  refine own_by (T' := T4) (g' := (mkF m 35 #[.val (.ref x), .val (.ref b), .val (.int (0 : Int32)), .val (.int (2 : Int32)), .val .null, .unset] [(.int (0 : Int32)), (.ref b)])) (fun _ kt_ => XS.iloadN X4.here hx rfl (hb hby own_d3_34) rfl kt_) ?_
  refine own_by (T' := T4) (g' := (mkF m 36 #[.val (.ref x), .val (.ref b), .val (.int (0 : Int32)), .val (.int (2 : Int32)), .val .null, .unset] [(.int (2 : Int32)), (.int (0 : Int32)), (.ref b)])) (fun _ kt_ => XS.iloadN X4.here hx rfl (hb hby own_d3_35) rfl kt_) ?_
  obtain ⟨_, _, ⟨T5, L5, k5, n5⟩, -, X5, ⟨Lc5, hQ5, l5, y5, z5⟩, st5⟩ := Jvm.LawKit.callS X4 hx (y := (⟨"java/lang/StringUTF16", "compress", "([CII)[B"⟩ : MethodName)) hown (mvT hZ (hw _ (List.mem_of_getElem? (i := 19) rfl))) (mvT hZ (hw _ (List.mem_of_getElem? (i := 20) rfl))) (mvT hZ (hw _ (List.mem_of_getElem? (i := 21) rfl))) (mvT hZ (hw _ (List.mem_of_getElem? (i := 22) rfl))) (by decide) (backOf (W := 0) (rmC3_2 l Z a0 hw [] zC GS b kC c0 c1 h0 n0 (by omega) O0 Vb hp0 hp1) hZ (hw _ (List.mem_of_getElem? (i := 22) rfl)) (hw _ (List.mem_of_getElem? (i := 21) rfl)) (by decide) (by decide)) (g := (mkF m 36 #[.val (.ref x), .val (.ref b), .val (.int (0 : Int32)), .val (.int (2 : Int32)), .val .null, .unset] [(.int (2 : Int32)), (.int (0 : Int32)), (.ref b)])) rfl (by rw [hml]; rfl) (argsL := [(.ref b), (.int (0 : Int32)), (.int (2 : Int32))]) (rest := []) (lenOf own_pd_1 rfl) rfl (by show 2 * 0 + _ ≤ _; exact Nat.le_of_eq rfl) (hb hby own_d3_36) (fun _ _ => ⟨rfl, e4, (by decide : 0 + 1 ≤ _), (by decide : 0 + 2 ≤ _)⟩)
  dsimp only [Pt.U, Pt.locs, Pt.cells, Pt.slots] at X5 l5 y5 z5 st5 hQ5
  subst l5 y5 z5
  obtain ⟨d_6, kB_7, rfl, N5q, K5, p5_0, p5_1⟩ := hQ5
  have N8 := Fr.app N0 N5q
  have gd_6 : h0.size ≤ d_6 := p5_0
  have zzK5 : h0.size ≤ T5.heap.size := K5.1
  have oo9 : Old Z n0 T5.heap := O0.keep K5 all0
  have kt10 : Keep h0 T5.heap [x] := KT0.trans K5 all0
  refine own_by (T' := T5) (g' := (mkF m 39 #[.val (.ref x), .val (.ref b), .val (.int (0 : Int32)), .val (.int (2 : Int32)), .val .null, .unset] [(.ref d_6)])) st5 ?_
  refine own_by (T' := T5) (g' := (mkF m 41 #[.val (.ref x), .val (.ref b), .val (.int (0 : Int32)), .val (.int (2 : Int32)), .val .null, .val (.ref d_6)] [])) (fun _ kt_ => XS.astore X5.here hx rfl (hb hby own_d3_39) rfl rfl (l' := #[.val (.ref x), .val (.ref b), .val (.int (0 : Int32)), .val (.int (2 : Int32)), .val .null, .val (.ref d_6)]) rfl kt_) ?_
  refine own_by (T' := T5) (g' := (mkF m 42 #[.val (.ref x), .val (.ref b), .val (.int (0 : Int32)), .val (.int (2 : Int32)), .val .null, .val (.ref d_6)] [(.ref x)])) (fun _ kt_ => XS.aloadN X5.here hx rfl (hb hby own_d3_41) rfl rfl kt_) ?_
  refine own_by (T' := T5) (g' := (mkF m 44 #[.val (.ref x), .val (.ref b), .val (.int (0 : Int32)), .val (.int (2 : Int32)), .val .null, .val (.ref d_6)] [(.ref d_6), (.ref x)])) (fun _ kt_ => XS.aload X5.here hx rfl (hb hby own_d3_42) rfl rfl kt_) ?_
  refine own_by (T' := T5) (g' := (mkF m 45 #[.val (.ref x), .val (.ref b), .val (.int (0 : Int32)), .val (.int (2 : Int32)), .val .null, .val (.ref d_6)] [(.int (2 : Int32)), (.ref d_6), (.ref x)])) (fun _ kt_ => XS.iloadN X5.here hx rfl (hb hby own_d3_44) rfl kt_) ?_
  obtain ⟨_, _, ⟨T11, L11, k11, n11⟩, -, X11, ⟨Lc11, hQ11, l11, y11, z11⟩, st11⟩ := Jvm.LawKit.callS X5 hx (y := (⟨"java/lang/StringUTF16", "coderFromArrayLen", "([BI)B"⟩ : MethodName)) hown (mvT hZ (hw _ (List.mem_of_getElem? (i := 27) rfl))) (mvT hZ (hw _ (List.mem_of_getElem? (i := 28) rfl))) (mvT hZ (hw _ (List.mem_of_getElem? (i := 21) rfl))) (mvT hZ (hw _ (List.mem_of_getElem? (i := 29) rfl))) (by decide) (backOf (W := 1) (rmCod_2 l Z a0 hw [] zC GS d_6 kB_7 c0.toInt8.toInt32 c1.toInt8.toInt32 T5.heap n0 (by omega) oo9 p5_1) hZ (hw _ (List.mem_of_getElem? (i := 29) rfl)) (hw _ (List.mem_of_getElem? (i := 21) rfl)) (by decide) (by decide)) (g := (mkF m 45 #[.val (.ref x), .val (.ref b), .val (.int (0 : Int32)), .val (.int (2 : Int32)), .val .null, .val (.ref d_6)] [(.int (2 : Int32)), (.ref d_6), (.ref x)])) rfl (by rw [hml]; rfl) (argsL := [(.ref d_6), (.int (2 : Int32))]) (rest := [(.ref x)]) (lenOf own_pd_2 rfl) rfl (by show 2 * 0 + _ ≤ _; exact Nat.le_of_eq rfl) (hb hby own_d3_45) (fun _ _ => ⟨rfl, rfl, (by decide : 1 + 0 ≤ _), (by decide : 2 + 0 ≤ _)⟩)
  dsimp only [Pt.U, Pt.locs, Pt.cells, Pt.slots] at X11 l11 y11 z11 st11 hQ11
  subst l11 y11 z11
  obtain ⟨rfl, N11q, e11⟩ := hQ11
  have N12 := Fr.app N8 N11q
  refine own_by (T' := T11) (g' := (mkF m 48 #[.val (.ref x), .val (.ref b), .val (.int (0 : Int32)), .val (.int (2 : Int32)), .val .null, .val (.ref d_6)] [(.int (0 : Int32)), (.ref x)])) st11 ?_
  have f13 : Exa Z T5.heap x "java/lang/String" := (E_x.keep K5)
  have f14 : Fld Z T5.heap x "java/lang/String" "coder" "B" (.int (0 : Int32)) := (Fc.keep K5 nin0)
  obtain ⟨T15, h15, X15, e15, W15, st15⟩ := putFN X11 hx hZ hown (hw _ (List.mem_of_getElem? (i := 30) rfl)) Via.refl e11 f14 f13 (Or.inr ⟨(hw _ (List.mem_of_getElem? (i := 31) rfl)), rfl, hnm⟩) (hw _ (List.mem_of_getElem? (i := 5) rfl)) (ty := .byte) (v' := (.int (0 : Int32).toInt8.toInt32)) (by decide) rfl (fits_nar_byte _) (g := (mkF m 48 #[.val (.ref x), .val (.ref b), .val (.int (0 : Int32)), .val (.int (2 : Int32)), .val .null, .val (.ref d_6)] [(.int (0 : Int32)), (.ref x)])) rfl rfl (hb hby own_d3_48)
  have K16 : Keep T5.heap h15 [x] := Keep.of_wr W15
  have f17 : Fld Z T5.heap x "java/lang/String" "value" "[B" .null := (Fv.keep K5 nin0)
  have zzK16 : T5.heap.size ≤ h15.size := K16.1
  have oo18 : Old Z n0 h15 := oo9.keep K16 (allS (by omega : n0 ≤ x) all0)
  have kt19 : Keep h0 h15 [x] := kt10.trans K16 (allS (Or.inl (List.mem_of_getElem? (i := 0) rfl)) all0)
  have f20 : Fld Z h15 x "java/lang/String" "value" "[B" .null := f17.other W15 (Or.inr (slot_ne (Or.inr (hw _ (List.mem_of_getElem? (i := 33) rfl))) (Or.inr (hw _ (List.mem_of_getElem? (i := 31) rfl))) (by decide) (t := (.array .byte)) (t' := .byte) (by decide) (by decide)))
  have f21 : Fld Z h15 x "java/lang/String" "coder" "B" (.int (0 : Int32).toInt8.toInt32) := f14.same W15
  have N22 := Fr.snoc X15 N12 (by omega : n0 ≤ x)
  refine own_by (T' := T15) (g' := (mkF m 51 #[.val (.ref x), .val (.ref b), .val (.int (0 : Int32)), .val (.int (2 : Int32)), .val .null, .val (.ref d_6)] [])) st15 ?_
  refine own_by (T' := T15) (g' := (mkF m 52 #[.val (.ref x), .val (.ref b), .val (.int (0 : Int32)), .val (.int (2 : Int32)), .val .null, .val (.ref d_6)] [(.ref x)])) (fun _ kt_ => XS.aloadN X15.here hx rfl (hb hby own_d3_51) rfl rfl kt_) ?_
  refine own_by (T' := T15) (g' := (mkF m 54 #[.val (.ref x), .val (.ref b), .val (.int (0 : Int32)), .val (.int (2 : Int32)), .val .null, .val (.ref d_6)] [(.ref d_6), (.ref x)])) (fun _ kt_ => XS.aload X15.here hx rfl (hb hby own_d3_52) rfl rfl kt_) ?_
  have f23 : Exa Z h15 x "java/lang/String" := (f13.keep K16)
  obtain ⟨T24, h24, X24, e24, W24, st24⟩ := putF X15 hx hZ hown (host := "") (Or.inl (hw _ (List.mem_of_getElem? (i := 32) rfl))) Via.refl e15 f20 f23 (Or.inr ⟨(hw _ (List.mem_of_getElem? (i := 33) rfl)), rfl, hnm⟩) (hw _ (List.mem_of_getElem? (i := 5) rfl)) (ty := (.array .byte)) (by decide) rfl rfl (g := (mkF m 54 #[.val (.ref x), .val (.ref b), .val (.int (0 : Int32)), .val (.int (2 : Int32)), .val .null, .val (.ref d_6)] [(.ref d_6), (.ref x)])) rfl rfl (hb hby own_d3_54)
  have K25 : Keep h15 h24 [x] := Keep.of_wr W24
  have zzK25 : h15.size ≤ h24.size := K25.1
  have oo26 : Old Z n0 h24 := oo18.keep K25 (allS (by omega : n0 ≤ x) all0)
  have kt27 : Keep h0 h24 [x] := kt19.trans K25 (allS (Or.inl (List.mem_of_getElem? (i := 0) rfl)) all0)
  have f28 : Fld Z h24 x "java/lang/String" "value" "[B" (.ref d_6) := f20.same W24
  have f29 : Fld Z h24 x "java/lang/String" "coder" "B" (.int (0 : Int32).toInt8.toInt32) := f21.other W24 (Or.inr (slot_ne (Or.inr (hw _ (List.mem_of_getElem? (i := 31) rfl))) (Or.inr (hw _ (List.mem_of_getElem? (i := 33) rfl))) (by decide) (t := .byte) (t' := (.array .byte)) (by decide) (by decide)))
  have N30 := Fr.snoc X24 N22 (by omega : n0 ≤ x)
  refine own_by (T' := T24) (g' := (mkF m 57 #[.val (.ref x), .val (.ref b), .val (.int (0 : Int32)), .val (.int (2 : Int32)), .val .null, .val (.ref d_6)] [])) st24 ?_
  have la31 : @LT.lt Nat instLTNat d_6 T5.heap.size := p5_1.lt
  have hv32 : ((.int (0 : Int32).toInt8.toInt32) : Value) = (.int (0 : Int32)) := rfl
  have la33 : @LT.lt Nat instLTNat x h0.size := E_x.lt
  have ne34 : @Ne Nat d_6 x := by omega
  have f35 : Arv Z h24 d_6 kB_7 .byte (2 : Int32) [(.int c0.toInt8.toInt32), (.int c1.toInt8.toInt32)] (.int (0 : Int32)) := ((p5_1.keep K16 (ninS ne34 nin0)).keep K25 (ninS ne34 nin0))
  obtain ⟨fs36, hr36, hrun36, hended36, hW36, hsame36⟩ := X24.leave (v := none) (fun _ => rfl)
  refine ⟨_, _, X24.returnOut hx Bd.returns (hb hby own_d3_57) hr36, hrun36, hended36, _, _, rfl, ?_, ⟨_, rfl⟩, hW36, hsame36.mono (by decide) (by decide)⟩
  show Q_rmS4_2 Z zC x b kC c0 c1 h0 n0 _ T24.heap _
  rw [e24]
  exact ⟨d_6, kB_7, rfl, N30, kt27, (by omega), f28, (hv32 ▸ f29), f35⟩
theorem own_ef_rmS1_2 (m : MethodId) (x0 : Addr) (x1 : Addr) : entryFrame m #[(.ref x0), (.ref x1)] 2 = mkF m 0 #[.val (.ref x0), .val (.ref x1)] [] := by first | (simp [entryFrame, mkF, argsToLocals, Value.category]; done) | rfl
def Q_rmS1_2 (Z : State) (zC : Int32) (x : Addr) (b : Addr) (kC : ClassId) (c0 : Int32) (c1 : Int32) (h0 : Heap) (n0 : Nat) (vv_ : Option Value) (hh_ : Heap) (LL_ : List Loc) : Prop := ∃ t : Addr, ∃ kB : ClassId, vv_ = none ∧ Fr n0 LL_ ∧ Keep h0 hh_ [x] ∧ h0.size ≤ t ∧ Fld Z hh_ x "java/lang/String" "value" "[B" (.ref t) ∧ Fld Z hh_ x "java/lang/String" "coder" "B" (.int (0 : Int32)) ∧ Arv Z hh_ t kB .byte (2 : Int32) [(.int c0.toInt8.toInt32), (.int c1.toInt8.toInt32)] (.int (0 : Int32))
set_option maxRecDepth 65536 in
set_option maxHeartbeats 40000000 in
theorem rmS1_2 (l : Launch) (Z : State) (a0 : Array Value) (hw : ∀ d ∈ tables_1, d.before a0 Z = true) (ws : List Jvm.Cond) (zC : Int32) (GS : Glob Z zC) (x : Addr) (b : Addr) (kC : ClassId) (c0 : Int32) (c1 : Int32) (h0 : Heap) (n0 : Nat) (Z0 : n0 ≤ h0.size) (O0 : Old Z n0 h0) (E_x : Exa Z h0 x "java/lang/String") (g_x : n0 ≤ x) (Fv : Fld Z h0 x "java/lang/String" "value" "[B" .null) (Fc : Fld Z h0 x "java/lang/String" "coder" "B" (.int (0 : Int32))) (Vb : Arv Z h0 b kC .char (2 : Int32) [(.int c0), (.int c1)] (.int (0 : Int32))) (hbx : b ≠ x) (hp0 : ¬ (255 : Int32) < c0) (hp1 : ¬ (255 : Int32) < c1) :
    MetFree l (⟨"java/lang/String", "<init>", "([C)V"⟩ : MethodName) (head1 (Jvm.Cond.code (⟨"java/lang/String", "<init>", "([C)V"⟩ : MethodName) jdk_42_method_3_code 2 none :: ws) ({ frames := 3, cells := 1, slots := 2, locals := 52 } : Room)) (fun aa_ UU_ => aa_ = #[(.ref x), (.ref b)] ∧ Z.Warmed39 UU_.vm ∧ UU_.heap = h0) (fun _ _ _ _ _ => True) (fun _ UU_ oo_ UV_ => ∃ vv_ LL_, oo_ = .returned vv_ ∧ Q_rmS1_2 Z zC x b kC c0 c1 h0 n0 vv_ UV_.heap LL_ ∧ FrameEnd UU_ oo_ UV_ LL_ ({ frames := 3, cells := 1, slots := 2, locals := 52 } : Room).cells ({ frames := 3, cells := 1, slots := 2, locals := 52 } : Room).slots) := by
  refine MetFree.of_bodySF (plainFor_of_name own_pn_java_lang_String) hisR ?_
  intro p e s m args below meth c s₁ Bd hml0 hP hK
  obtain ⟨rfl, hZ, hh⟩ := hP
  have hx := Bd.exec
  have hby := Bd.bytes
  have hml : c.maxLocals = 2 := hml0
  have hown : s.vm.findClass "java/lang/String" = some m.cls := findClass_of_methodNamed Bd.named
  have hnm := (name_of_methodNamed Bd.named Bd.method).1
  have X0 : Stand p l e ({ frames := 3, cells := 1, slots := 2, locals := 52 } : Room) s m #[(.ref x), (.ref b)] below meth c s₁ [] 0 0 := Stand.of_body Bd
  have e0 : s₁.heap = h0 := by rw [← hh, Bd.state]; rfl
  have N0 := Fr.nil n0
  have hn0 : Z.heap.size = n0 := O0.1
  have KT0 : Keep h0 h0 [x] := Keep.refl _ _
  refine own_enter (Φ := fun oo_ UV_ => ∃ vv_ LL_, oo_ = .returned vv_ ∧ Q_rmS1_2 Z zC x b kC c0 c1 h0 n0 vv_ UV_.heap LL_ ∧ FrameEnd s oo_ UV_ LL_ ({ frames := 3, cells := 1, slots := 2, locals := 52 } : Room).cells ({ frames := 3, cells := 1, slots := 2, locals := 52 } : Room).slots) (own_ef_rmS1_2 m x b) ?_
  have ne1 : b ≠ x := hbx
  refine own_by (T' := s₁) (g' := (mkF m 1 #[.val (.ref x), .val (.ref b)] [(.ref x)])) (fun _ kt_ => XS.aloadN X0.here hx rfl (hb hby own_d2_0) rfl rfl kt_) ?_
  refine own_by (T' := s₁) (g' := (mkF m 2 #[.val (.ref x), .val (.ref b)] [(.ref b), (.ref x)])) (fun _ kt_ => XS.aloadN X0.here hx rfl (hb hby own_d2_1) rfl rfl kt_) ?_
  refine own_by (T' := s₁) (g' := (mkF m 3 #[.val (.ref x), .val (.ref b)] [(.int (0 : Int32)), (.ref b), (.ref x)])) (fun _ kt_ => XS.iconst X0.here hx rfl (hb hby own_d2_2) kt_) ?_
  refine own_by (T' := s₁) (g' := (mkF m 4 #[.val (.ref x), .val (.ref b)] [(.ref b), (.int (0 : Int32)), (.ref b), (.ref x)])) (fun _ kt_ => XS.aloadN X0.here hx rfl (hb hby own_d2_3) rfl rfl kt_) ?_
  obtain ⟨cl2, Ar2, q2, S2, M2, H2, G2⟩ := id Vb
  refine own_by (T' := s₁) (g' := (mkF m 5 #[.val (.ref x), .val (.ref b)] [(.int (2 : Int32)), (.int (0 : Int32)), (.ref b), (.ref x)])) (fun _ kt_ => X0.arraylength hx (by rw [e0]; exact Ar2.1) (State.isArrayOf_alike hZ.alike Ar2.2.1) (g := (mkF m 4 #[.val (.ref x), .val (.ref b)] [(.ref b), (.int (0 : Int32)), (.ref b), (.ref x)])) rfl rfl (hb hby own_d2_4) _ (by rw [len_of S2 M2]; exact kt_)) ?_
  refine own_by (T' := s₁) (g' := (mkF m 6 #[.val (.ref x), .val (.ref b)] [.null, (.int (2 : Int32)), (.int (0 : Int32)), (.ref b), (.ref x)])) (fun _ kt_ => XS.aconstNull X0.here hx rfl (hb hby own_d2_5) kt_) ?_
  have la3 : @LT.lt Nat instLTNat x h0.size := E_x.lt
  obtain ⟨_, _, ⟨T4, L4, k4, n4⟩, -, X4, ⟨Lc4, hQ4, l4, y4, z4⟩, st4⟩ := X0.specialBack hx (y := (⟨"java/lang/String", "<init>", "([CIILjava/lang/Void;)V"⟩ : MethodName)) rfl hown (mvT hZ (hw _ (List.mem_of_getElem? (i := 11) rfl))) (mvT hZ (hw _ (List.mem_of_getElem? (i := 12) rfl))) (mvT hZ (hw _ (List.mem_of_getElem? (i := 14) rfl))) (by decide) (backOf (W := 0) (rmS4_2 l Z a0 hw [] zC GS x b kC c0 c1 h0 n0 (by omega) O0 E_x (by omega) Fv Fc Vb hbx hp0 hp1) hZ (hw _ (List.mem_of_getElem? (i := 14) rfl)) (hw _ (List.mem_of_getElem? (i := 6) rfl)) (by decide) (by decide)) (g := (mkF m 6 #[.val (.ref x), .val (.ref b)] [.null, (.int (2 : Int32)), (.int (0 : Int32)), (.ref b), (.ref x)])) rfl (by rw [hml]; rfl) (Steps.refl _) (a := x) (argsL := [(.ref b), (.int (0 : Int32)), (.int (2 : Int32)), .null]) (rest := []) (lenOf own_pd_3 rfl) rfl (by show 2 * 0 + _ ≤ _; exact Nat.le_of_eq rfl) (hb hby own_d2_6) (fun _ _ => ⟨rfl, e0, (by decide : 0 + 1 ≤ _), (by decide : 0 + 2 ≤ _)⟩)
  dsimp only [Pt.U, Pt.locs, Pt.cells, Pt.slots] at X4 l4 y4 z4 st4 hQ4
  subst l4 y4 z4
  obtain ⟨t_5, kB_6, rfl, N4q, K4, p4_0, p4_1, p4_2, p4_3⟩ := hQ4
  have N7 := Fr.app N0 N4q
  have gt_5 : h0.size ≤ t_5 := p4_0
  have zzK4 : h0.size ≤ T4.heap.size := K4.1
  have oo8 : Old Z n0 T4.heap := O0.keep K4 (allS (by omega : n0 ≤ x) all0)
  have kt9 : Keep h0 T4.heap [x] := KT0.trans K4 (allS (Or.inl (List.mem_of_getElem? (i := 0) rfl)) all0)
  refine own_by (T' := T4) (g' := (mkF m 9 #[.val (.ref x), .val (.ref b)] [])) (fun _ kt_ => st4.trans kt_) ?_
  have la10 : @LT.lt Nat instLTNat t_5 T4.heap.size := p4_3.lt
  obtain ⟨fs11, hr11, hrun11, hended11, hW11, hsame11⟩ := X4.leave (v := none) (fun _ => rfl)
  refine ⟨_, _, X4.returnOut hx Bd.returns (hb hby own_d2_9) hr11, hrun11, hended11, _, _, rfl, ?_, ⟨_, rfl⟩, hW11, hsame11.mono (by decide) (by decide)⟩
  show Q_rmS1_2 Z zC x b kC c0 c1 h0 n0 _ T4.heap _
  exact ⟨t_5, kB_6, rfl, N7, kt9, (by omega), p4_1, p4_2, p4_3⟩
theorem own_ef_rmC5_3 (m : MethodId) (x0 : Addr) (x1 : Int32) (x2 : Addr) (x3 : Int32) (x4 : Int32) : entryFrame m #[(.ref x0), (.int x1), (.ref x2), (.int x3), (.int x4)] 7 = mkF m 0 #[.val (.ref x0), .val (.int x1), .val (.ref x2), .val (.int x3), .val (.int x4), .unset, .unset] [] := by first | (simp [entryFrame, mkF, argsToLocals, Value.category]; done) | rfl
def Q_rmC5_3 (Z : State) (zC : Int32) (b : Addr) (d : Addr) (kC : ClassId) (kB : ClassId) (c0 : Int32) (c1 : Int32) (c2 : Int32) (h0 : Heap) (n0 : Nat) (vv_ : Option Value) (hh_ : Heap) (LL_ : List Loc) : Prop := vv_ = some (.int (3 : Int32)) ∧ Fr n0 LL_ ∧ Keep h0 hh_ [d] ∧ Arv Z hh_ d kB .byte (3 : Int32) [(.int c0.toInt8.toInt32), (.int c1.toInt8.toInt32), (.int c2.toInt8.toInt32)] (.int (0 : Int32))
set_option maxRecDepth 65536 in
set_option maxHeartbeats 40000000 in
theorem rmC5_3 (l : Launch) (Z : State) (a0 : Array Value) (hw : ∀ d ∈ tables_1, d.before a0 Z = true) (ws : List Jvm.Cond) (zC : Int32) (GS : Glob Z zC) (b : Addr) (d : Addr) (kC : ClassId) (kB : ClassId) (c0 : Int32) (c1 : Int32) (c2 : Int32) (h0 : Heap) (n0 : Nat) (Z0 : n0 ≤ h0.size) (O0 : Old Z n0 h0) (Vb : Arv Z h0 b kC .char (3 : Int32) [(.int c0), (.int c1), (.int c2)] (.int (0 : Int32))) (Vd : Arv Z h0 d kB .byte (3 : Int32) [(.int (0 : Int32)), (.int (0 : Int32)), (.int (0 : Int32))] (.int (0 : Int32))) (gd : n0 ≤ d) (hbd : b ≠ d) (hp0 : ¬ (255 : Int32) < c0) (hp1 : ¬ (255 : Int32) < c1) (hp2 : ¬ (255 : Int32) < c2) :
    MetFree l (⟨"java/lang/StringUTF16", "compress", "([CI[BII)I"⟩ : MethodName) (head1 (Jvm.Cond.code (⟨"java/lang/StringUTF16", "compress", "([CI[BII)I"⟩ : MethodName) jdk_52_method_21_code 7 (some .int) :: ws) ({ frames := 0, cells := 0, slots := 0, locals := 0 } : Room)) (fun aa_ UU_ => aa_ = #[(.ref b), (.int (0 : Int32)), (.ref d), (.int (0 : Int32)), (.int (3 : Int32))] ∧ Z.Warmed39 UU_.vm ∧ UU_.heap = h0) (fun _ _ _ _ _ => True) (fun _ UU_ oo_ UV_ => ∃ vv_ LL_, oo_ = .returned vv_ ∧ Q_rmC5_3 Z zC b d kC kB c0 c1 c2 h0 n0 vv_ UV_.heap LL_ ∧ FrameEnd UU_ oo_ UV_ LL_ ({ frames := 0, cells := 0, slots := 0, locals := 0 } : Room).cells ({ frames := 0, cells := 0, slots := 0, locals := 0 } : Room).slots) := by
  refine MetFree.of_bodySF (plainFor_of_name own_pn_java_lang_StringUTF16) hisR ?_
  intro p e s m args below meth c s₁ Bd hml0 hP hK
  obtain ⟨rfl, hZ, hh⟩ := hP
  have hx := Bd.exec
  have hby := Bd.bytes
  have hml : c.maxLocals = 7 := hml0
  have hown : s.vm.findClass "java/lang/StringUTF16" = some m.cls := findClass_of_methodNamed Bd.named
  have hnm := (name_of_methodNamed Bd.named Bd.method).1
  have X0 : Stand p l e ({ frames := 0, cells := 0, slots := 0, locals := 0 } : Room) s m #[(.ref b), (.int (0 : Int32)), (.ref d), (.int (0 : Int32)), (.int (3 : Int32))] below meth c s₁ [] 0 0 := Stand.of_body Bd
  have e0 : s₁.heap = h0 := by rw [← hh, Bd.state]; rfl
  have N0 := Fr.nil n0
  have hn0 : Z.heap.size = n0 := O0.1
  have KT0 : Keep h0 h0 [d] := Keep.refl _ _
  refine own_enter (Φ := fun oo_ UV_ => ∃ vv_ LL_, oo_ = .returned vv_ ∧ Q_rmC5_3 Z zC b d kC kB c0 c1 c2 h0 n0 vv_ UV_.heap LL_ ∧ FrameEnd s oo_ UV_ LL_ ({ frames := 0, cells := 0, slots := 0, locals := 0 } : Room).cells ({ frames := 0, cells := 0, slots := 0, locals := 0 } : Room).slots) (own_ef_rmC5_3 m b (0 : Int32) d (0 : Int32) (3 : Int32)) ?_
  have ne1 : b ≠ d := hbd
  refine own_by (T' := s₁) (g' := (mkF m 1 #[.val (.ref b), .val (.int (0 : Int32)), .val (.ref d), .val (.int (0 : Int32)), .val (.int (3 : Int32)), .unset, .unset] [(.int (0 : Int32))])) (fun _ kt_ => XS.iconst X0.here hx rfl (hb hby own_d6_0) kt_) ?_
  refine own_by (T' := s₁) (g' := (mkF m 3 #[.val (.ref b), .val (.int (0 : Int32)), .val (.ref d), .val (.int (0 : Int32)), .val (.int (3 : Int32)), .val (.int (0 : Int32)), .unset] [])) (fun _ kt_ => XS.istore X0.here hx rfl (hb hby own_d6_1) rfl (l' := #[.val (.ref b), .val (.int (0 : Int32)), .val (.ref d), .val (.int (0 : Int32)), .val (.int (3 : Int32)), .val (.int (0 : Int32)), .unset]) rfl kt_) ?_
  refine own_by (T' := s₁) (g' := (mkF m 5 #[.val (.ref b), .val (.int (0 : Int32)), .val (.ref d), .val (.int (0 : Int32)), .val (.int (3 : Int32)), .val (.int (0 : Int32)), .unset] [(.int (0 : Int32))])) (fun _ kt_ => XS.iload X0.here hx rfl (hb hby own_d6_3) rfl kt_) ?_
  refine own_by (T' := s₁) (g' := (mkF m 7 #[.val (.ref b), .val (.int (0 : Int32)), .val (.ref d), .val (.int (0 : Int32)), .val (.int (3 : Int32)), .val (.int (0 : Int32)), .unset] [(.int (3 : Int32)), (.int (0 : Int32))])) (fun _ kt_ => XS.iload X0.here hx rfl (hb hby own_d6_5) rfl kt_) ?_
  refine own_by (T' := s₁) (g' := (mkF m 10 #[.val (.ref b), .val (.int (0 : Int32)), .val (.ref d), .val (.int (0 : Int32)), .val (.int (3 : Int32)), .val (.int (0 : Int32)), .unset] [])) (fun _ kt_ => XS.icmpNo X0.here hx rfl (hb hby own_d6_7) rfl (XT.ii_ge_f (by decide)) kt_) ?_
  refine own_by (T' := s₁) (g' := (mkF m 11 #[.val (.ref b), .val (.int (0 : Int32)), .val (.ref d), .val (.int (0 : Int32)), .val (.int (3 : Int32)), .val (.int (0 : Int32)), .unset] [(.ref b)])) (fun _ kt_ => XS.aloadN X0.here hx rfl (hb hby own_d6_10) rfl rfl kt_) ?_
  refine own_by (T' := s₁) (g' := (mkF m 12 #[.val (.ref b), .val (.int (0 : Int32)), .val (.ref d), .val (.int (0 : Int32)), .val (.int (3 : Int32)), .val (.int (0 : Int32)), .unset] [(.int (0 : Int32)), (.ref b)])) (fun _ kt_ => XS.iloadN X0.here hx rfl (hb hby own_d6_11) rfl kt_) ?_
  obtain ⟨cl2, Ar2, q2, S2, M2, H2, G2⟩ := id Vb
  have hin2 : ¬ ((0 : Int32) < 0 ∨ cl2.slots.size ≤ ((0 : Int32)).toNatClampNeg) := inb_of S2 ⟨by decide, by decide⟩
  have hat2 : cl2.slots[((0 : Int32)).toNatClampNeg]? = some (.int c0) := H2.at hin2 rfl
  refine own_by (T' := s₁) (g' := (mkF m 13 #[.val (.ref b), .val (.int (0 : Int32)), .val (.ref d), .val (.int (0 : Int32)), .val (.int (3 : Int32)), .val (.int (0 : Int32)), .unset] [(.int c0)])) (fun _ kt_ => X0.caload hx (j := (0 : Int32)) (v := (.int c0)) (by rw [e0]; exact Ar2.1) (State.isArrayOf_alike hZ.alike Ar2.2.1) Ar2.2.2 hin2 hat2 (g := (mkF m 12 #[.val (.ref b), .val (.int (0 : Int32)), .val (.ref d), .val (.int (0 : Int32)), .val (.int (3 : Int32)), .val (.int (0 : Int32)), .unset] [(.int (0 : Int32)), (.ref b)])) rfl rfl (hb hby own_d6_12) _ kt_) ?_
  refine own_by (T' := s₁) (g' := (mkF m 15 #[.val (.ref b), .val (.int (0 : Int32)), .val (.ref d), .val (.int (0 : Int32)), .val (.int (3 : Int32)), .val (.int (0 : Int32)), .val (.int c0)] [])) (fun _ kt_ => XS.istore X0.here hx rfl (hb hby own_d6_13) rfl (l' := #[.val (.ref b), .val (.int (0 : Int32)), .val (.ref d), .val (.int (0 : Int32)), .val (.int (3 : Int32)), .val (.int (0 : Int32)), .val (.int c0)]) rfl kt_) ?_
  refine own_by (T' := s₁) (g' := (mkF m 17 #[.val (.ref b), .val (.int (0 : Int32)), .val (.ref d), .val (.int (0 : Int32)), .val (.int (3 : Int32)), .val (.int (0 : Int32)), .val (.int c0)] [(.int c0)])) (fun _ kt_ => XS.iload X0.here hx rfl (hb hby own_d6_15) rfl kt_) ?_
  refine own_by (T' := s₁) (g' := (mkF m 20 #[.val (.ref b), .val (.int (0 : Int32)), .val (.ref d), .val (.int (0 : Int32)), .val (.int (3 : Int32)), .val (.int (0 : Int32)), .val (.int c0)] [(.int (255 : Int32)), (.int c0)])) (fun _ kt_ => XS.sipush X0.here hx rfl (hb hby own_d6_17) kt_) ?_
  refine own_by (T' := s₁) (g' := (mkF m 26 #[.val (.ref b), .val (.int (0 : Int32)), .val (.ref d), .val (.int (0 : Int32)), .val (.int (3 : Int32)), .val (.int (0 : Int32)), .val (.int c0)] [])) (fun _ kt_ => XS.icmpYes X0.here hx rfl (pc0 := 20) (pc' := 26) rfl (hb hby own_d6_20) rfl (XT.ii_le_t hp0) (by decide) (by decide) kt_) ?_
  refine own_by (T' := s₁) (g' := (mkF m 27 #[.val (.ref b), .val (.int (0 : Int32)), .val (.ref d), .val (.int (0 : Int32)), .val (.int (3 : Int32)), .val (.int (0 : Int32)), .val (.int c0)] [(.ref d)])) (fun _ kt_ => XS.aloadN X0.here hx rfl (hb hby own_d6_26) rfl rfl kt_) ?_
  refine own_by (T' := s₁) (g' := (mkF m 28 #[.val (.ref b), .val (.int (0 : Int32)), .val (.ref d), .val (.int (0 : Int32)), .val (.int (3 : Int32)), .val (.int (0 : Int32)), .val (.int c0)] [(.int (0 : Int32)), (.ref d)])) (fun _ kt_ => XS.iloadN X0.here hx rfl (hb hby own_d6_27) rfl kt_) ?_
  refine own_by (T' := s₁) (g' := (mkF m 30 #[.val (.ref b), .val (.int (0 : Int32)), .val (.ref d), .val (.int (0 : Int32)), .val (.int (3 : Int32)), .val (.int (0 : Int32)), .val (.int c0)] [(.int c0), (.int (0 : Int32)), (.ref d)])) (fun _ kt_ => XS.iload X0.here hx rfl (hb hby own_d6_28) rfl kt_) ?_
  refine own_by (T' := s₁) (g' := (mkF m 31 #[.val (.ref b), .val (.int (0 : Int32)), .val (.ref d), .val (.int (0 : Int32)), .val (.int (3 : Int32)), .val (.int (0 : Int32)), .val (.int c0)] [(.int c0.toInt8.toInt32), (.int (0 : Int32)), (.ref d)])) (fun _ kt_ => XS.i2b X0.here hx rfl (hb hby own_d6_30) rfl kt_) ?_
  obtain ⟨cl3, Ar3, q3, S3, M3, H3, G3⟩ := id Vd
  have hin3 : ¬ ((0 : Int32) < 0 ∨ cl3.slots.size ≤ ((0 : Int32)).toNatClampNeg) := inb_of S3 ⟨by decide, by decide⟩
  obtain ⟨T3, h3, X3, e3, W3, st3⟩ := stB X0 hx hZ e0 Ar3 (j := (0 : Int32)) hin3 (g := (mkF m 31 #[.val (.ref b), .val (.int (0 : Int32)), .val (.ref d), .val (.int (0 : Int32)), .val (.int (3 : Int32)), .val (.int (0 : Int32)), .val (.int c0)] [(.int c0.toInt8.toInt32), (.int (0 : Int32)), (.ref d)])) rfl rfl (hb hby own_d6_31)
  rw [show nar .byte c0.toInt8.toInt32 = c0.toInt8.toInt32 from own_narB _] at W3
  have K4 : Keep h0 h3 [d] := Keep.of_wr W3
  have zzK4 : h0.size ≤ h3.size := K4.1
  have oo5 : Old Z n0 h3 := O0.keep K4 (allS (by omega : n0 ≤ d) all0)
  have kt6 : Keep h0 h3 [d] := KT0.trans K4 (allS (Or.inl (List.mem_of_getElem? (i := 0) rfl)) all0)
  have f7 : Arv Z h3 d kB .byte (3 : Int32) [(.int c0.toInt8.toInt32), (.int (0 : Int32)), (.int (0 : Int32))] (.int (0 : Int32)) := Arv.set Ar3 q3 S3 M3 H3 G3 (fits_nar_byte _) W3 0 rfl (Nat.le_of_ble_eq_true rfl)
  have N8 := Fr.snoc X3 N0 (by omega : n0 ≤ d)
  refine own_by (T' := T3) (g' := (mkF m 32 #[.val (.ref b), .val (.int (0 : Int32)), .val (.ref d), .val (.int (0 : Int32)), .val (.int (3 : Int32)), .val (.int (0 : Int32)), .val (.int c0)] [])) st3 ?_
  refine own_by (T' := T3) (g' := (mkF m 35 #[.val (.ref b), .val (.int ((0 : Int32) + (1 : Int32))), .val (.ref d), .val (.int (0 : Int32)), .val (.int (3 : Int32)), .val (.int (0 : Int32)), .val (.int c0)] [])) (fun _ kt_ => XS.iinc X3.here hx rfl (hb hby own_d6_32) rfl (l' := #[.val (.ref b), .val (.int ((0 : Int32) + (1 : Int32))), .val (.ref d), .val (.int (0 : Int32)), .val (.int (3 : Int32)), .val (.int (0 : Int32)), .val (.int c0)]) rfl kt_) ?_
  rw [show ((0 : Int32) + (1 : Int32)) = (1 : Int32) from by decide]
  refine own_by (T' := T3) (g' := (mkF m 38 #[.val (.ref b), .val (.int (1 : Int32)), .val (.ref d), .val (.int ((0 : Int32) + (1 : Int32))), .val (.int (3 : Int32)), .val (.int (0 : Int32)), .val (.int c0)] [])) (fun _ kt_ => XS.iinc X3.here hx rfl (hb hby own_d6_35) rfl (l' := #[.val (.ref b), .val (.int (1 : Int32)), .val (.ref d), .val (.int ((0 : Int32) + (1 : Int32))), .val (.int (3 : Int32)), .val (.int (0 : Int32)), .val (.int c0)]) rfl kt_) ?_
  rw [show ((0 : Int32) + (1 : Int32)) = (1 : Int32) from by decide]
  refine own_by (T' := T3) (g' := (mkF m 41 #[.val (.ref b), .val (.int (1 : Int32)), .val (.ref d), .val (.int (1 : Int32)), .val (.int (3 : Int32)), .val (.int ((0 : Int32) + (1 : Int32))), .val (.int c0)] [])) (fun _ kt_ => XS.iinc X3.here hx rfl (hb hby own_d6_38) rfl (l' := #[.val (.ref b), .val (.int (1 : Int32)), .val (.ref d), .val (.int (1 : Int32)), .val (.int (3 : Int32)), .val (.int ((0 : Int32) + (1 : Int32))), .val (.int c0)]) rfl kt_) ?_
  rw [show ((0 : Int32) + (1 : Int32)) = (1 : Int32) from by decide]
  refine own_by (T' := T3) (g' := (mkF m 3 #[.val (.ref b), .val (.int (1 : Int32)), .val (.ref d), .val (.int (1 : Int32)), .val (.int (3 : Int32)), .val (.int (1 : Int32)), .val (.int c0)] [])) (fun _ kt_ => XS.goto X3.here hx rfl (pc0 := 41) (pc' := 3) rfl (hb hby own_d6_41) (by decide) (by decide) kt_) ?_
  refine own_by (T' := T3) (g' := (mkF m 5 #[.val (.ref b), .val (.int (1 : Int32)), .val (.ref d), .val (.int (1 : Int32)), .val (.int (3 : Int32)), .val (.int (1 : Int32)), .val (.int c0)] [(.int (1 : Int32))])) (fun _ kt_ => XS.iload X3.here hx rfl (hb hby own_d6_3) rfl kt_) ?_
  refine own_by (T' := T3) (g' := (mkF m 7 #[.val (.ref b), .val (.int (1 : Int32)), .val (.ref d), .val (.int (1 : Int32)), .val (.int (3 : Int32)), .val (.int (1 : Int32)), .val (.int c0)] [(.int (3 : Int32)), (.int (1 : Int32))])) (fun _ kt_ => XS.iload X3.here hx rfl (hb hby own_d6_5) rfl kt_) ?_
  refine own_by (T' := T3) (g' := (mkF m 10 #[.val (.ref b), .val (.int (1 : Int32)), .val (.ref d), .val (.int (1 : Int32)), .val (.int (3 : Int32)), .val (.int (1 : Int32)), .val (.int c0)] [])) (fun _ kt_ => XS.icmpNo X3.here hx rfl (hb hby own_d6_7) rfl (XT.ii_ge_f (by decide)) kt_) ?_
  refine own_by (T' := T3) (g' := (mkF m 11 #[.val (.ref b), .val (.int (1 : Int32)), .val (.ref d), .val (.int (1 : Int32)), .val (.int (3 : Int32)), .val (.int (1 : Int32)), .val (.int c0)] [(.ref b)])) (fun _ kt_ => XS.aloadN X3.here hx rfl (hb hby own_d6_10) rfl rfl kt_) ?_
  refine own_by (T' := T3) (g' := (mkF m 12 #[.val (.ref b), .val (.int (1 : Int32)), .val (.ref d), .val (.int (1 : Int32)), .val (.int (3 : Int32)), .val (.int (1 : Int32)), .val (.int c0)] [(.int (1 : Int32)), (.ref b)])) (fun _ kt_ => XS.iloadN X3.here hx rfl (hb hby own_d6_11) rfl kt_) ?_
  have f10 : Arv Z h3 b kC .char (3 : Int32) [(.int c0), (.int c1), (.int c2)] (.int (0 : Int32)) := (Vb.keep K4 (ninS ne1 nin0))
  obtain ⟨cl9, Ar9, q9, S9, M9, H9, G9⟩ := id f10
  have hin9 : ¬ ((1 : Int32) < 0 ∨ cl9.slots.size ≤ ((1 : Int32)).toNatClampNeg) := inb_of S9 ⟨by decide, by decide⟩
  have hat9 : cl9.slots[((1 : Int32)).toNatClampNeg]? = some (.int c1) := H9.at hin9 rfl
  refine own_by (T' := T3) (g' := (mkF m 13 #[.val (.ref b), .val (.int (1 : Int32)), .val (.ref d), .val (.int (1 : Int32)), .val (.int (3 : Int32)), .val (.int (1 : Int32)), .val (.int c0)] [(.int c1)])) (fun _ kt_ => X3.caload hx (j := (1 : Int32)) (v := (.int c1)) (by rw [e3]; exact Ar9.1) (State.isArrayOf_alike hZ.alike Ar9.2.1) Ar9.2.2 hin9 hat9 (g := (mkF m 12 #[.val (.ref b), .val (.int (1 : Int32)), .val (.ref d), .val (.int (1 : Int32)), .val (.int (3 : Int32)), .val (.int (1 : Int32)), .val (.int c0)] [(.int (1 : Int32)), (.ref b)])) rfl rfl (hb hby own_d6_12) _ kt_) ?_
  refine own_by (T' := T3) (g' := (mkF m 15 #[.val (.ref b), .val (.int (1 : Int32)), .val (.ref d), .val (.int (1 : Int32)), .val (.int (3 : Int32)), .val (.int (1 : Int32)), .val (.int c1)] [])) (fun _ kt_ => XS.istore X3.here hx rfl (hb hby own_d6_13) rfl (l' := #[.val (.ref b), .val (.int (1 : Int32)), .val (.ref d), .val (.int (1 : Int32)), .val (.int (3 : Int32)), .val (.int (1 : Int32)), .val (.int c1)]) rfl kt_) ?_
  refine own_by (T' := T3) (g' := (mkF m 17 #[.val (.ref b), .val (.int (1 : Int32)), .val (.ref d), .val (.int (1 : Int32)), .val (.int (3 : Int32)), .val (.int (1 : Int32)), .val (.int c1)] [(.int c1)])) (fun _ kt_ => XS.iload X3.here hx rfl (hb hby own_d6_15) rfl kt_) ?_
  refine own_by (T' := T3) (g' := (mkF m 20 #[.val (.ref b), .val (.int (1 : Int32)), .val (.ref d), .val (.int (1 : Int32)), .val (.int (3 : Int32)), .val (.int (1 : Int32)), .val (.int c1)] [(.int (255 : Int32)), (.int c1)])) (fun _ kt_ => XS.sipush X3.here hx rfl (hb hby own_d6_17) kt_) ?_
  refine own_by (T' := T3) (g' := (mkF m 26 #[.val (.ref b), .val (.int (1 : Int32)), .val (.ref d), .val (.int (1 : Int32)), .val (.int (3 : Int32)), .val (.int (1 : Int32)), .val (.int c1)] [])) (fun _ kt_ => XS.icmpYes X3.here hx rfl (pc0 := 20) (pc' := 26) rfl (hb hby own_d6_20) rfl (XT.ii_le_t hp1) (by decide) (by decide) kt_) ?_
  refine own_by (T' := T3) (g' := (mkF m 27 #[.val (.ref b), .val (.int (1 : Int32)), .val (.ref d), .val (.int (1 : Int32)), .val (.int (3 : Int32)), .val (.int (1 : Int32)), .val (.int c1)] [(.ref d)])) (fun _ kt_ => XS.aloadN X3.here hx rfl (hb hby own_d6_26) rfl rfl kt_) ?_
  refine own_by (T' := T3) (g' := (mkF m 28 #[.val (.ref b), .val (.int (1 : Int32)), .val (.ref d), .val (.int (1 : Int32)), .val (.int (3 : Int32)), .val (.int (1 : Int32)), .val (.int c1)] [(.int (1 : Int32)), (.ref d)])) (fun _ kt_ => XS.iloadN X3.here hx rfl (hb hby own_d6_27) rfl kt_) ?_
  refine own_by (T' := T3) (g' := (mkF m 30 #[.val (.ref b), .val (.int (1 : Int32)), .val (.ref d), .val (.int (1 : Int32)), .val (.int (3 : Int32)), .val (.int (1 : Int32)), .val (.int c1)] [(.int c1), (.int (1 : Int32)), (.ref d)])) (fun _ kt_ => XS.iload X3.here hx rfl (hb hby own_d6_28) rfl kt_) ?_
  refine own_by (T' := T3) (g' := (mkF m 31 #[.val (.ref b), .val (.int (1 : Int32)), .val (.ref d), .val (.int (1 : Int32)), .val (.int (3 : Int32)), .val (.int (1 : Int32)), .val (.int c1)] [(.int c1.toInt8.toInt32), (.int (1 : Int32)), (.ref d)])) (fun _ kt_ => XS.i2b X3.here hx rfl (hb hby own_d6_30) rfl kt_) ?_
  obtain ⟨cl11, Ar11, q11, S11, M11, H11, G11⟩ := id f7
  have hin11 : ¬ ((1 : Int32) < 0 ∨ cl11.slots.size ≤ ((1 : Int32)).toNatClampNeg) := inb_of S11 ⟨by decide, by decide⟩
  obtain ⟨T11, h11, X11, e11, W11, st11⟩ := stB X3 hx hZ e3 Ar11 (j := (1 : Int32)) hin11 (g := (mkF m 31 #[.val (.ref b), .val (.int (1 : Int32)), .val (.ref d), .val (.int (1 : Int32)), .val (.int (3 : Int32)), .val (.int (1 : Int32)), .val (.int c1)] [(.int c1.toInt8.toInt32), (.int (1 : Int32)), (.ref d)])) rfl rfl (hb hby own_d6_31)
  rw [show nar .byte c1.toInt8.toInt32 = c1.toInt8.toInt32 from own_narB _] at W11
  have K12 : Keep h3 h11 [d] := Keep.of_wr W11
  have zzK12 : h3.size ≤ h11.size := K12.1
  have oo13 : Old Z n0 h11 := oo5.keep K12 (allS (by omega : n0 ≤ d) all0)
  have kt14 : Keep h0 h11 [d] := kt6.trans K12 (allS (Or.inl (List.mem_of_getElem? (i := 0) rfl)) all0)
  have f15 : Arv Z h11 d kB .byte (3 : Int32) [(.int c0.toInt8.toInt32), (.int c1.toInt8.toInt32), (.int (0 : Int32))] (.int (0 : Int32)) := Arv.set Ar11 q11 S11 M11 H11 G11 (fits_nar_byte _) W11 1 rfl (Nat.le_of_ble_eq_true rfl)
  have N16 := Fr.snoc X11 N8 (by omega : n0 ≤ d)
  refine own_by (T' := T11) (g' := (mkF m 32 #[.val (.ref b), .val (.int (1 : Int32)), .val (.ref d), .val (.int (1 : Int32)), .val (.int (3 : Int32)), .val (.int (1 : Int32)), .val (.int c1)] [])) st11 ?_
  refine own_by (T' := T11) (g' := (mkF m 35 #[.val (.ref b), .val (.int ((1 : Int32) + (1 : Int32))), .val (.ref d), .val (.int (1 : Int32)), .val (.int (3 : Int32)), .val (.int (1 : Int32)), .val (.int c1)] [])) (fun _ kt_ => XS.iinc X11.here hx rfl (hb hby own_d6_32) rfl (l' := #[.val (.ref b), .val (.int ((1 : Int32) + (1 : Int32))), .val (.ref d), .val (.int (1 : Int32)), .val (.int (3 : Int32)), .val (.int (1 : Int32)), .val (.int c1)]) rfl kt_) ?_
  rw [show ((1 : Int32) + (1 : Int32)) = (2 : Int32) from by decide]
  refine own_by (T' := T11) (g' := (mkF m 38 #[.val (.ref b), .val (.int (2 : Int32)), .val (.ref d), .val (.int ((1 : Int32) + (1 : Int32))), .val (.int (3 : Int32)), .val (.int (1 : Int32)), .val (.int c1)] [])) (fun _ kt_ => XS.iinc X11.here hx rfl (hb hby own_d6_35) rfl (l' := #[.val (.ref b), .val (.int (2 : Int32)), .val (.ref d), .val (.int ((1 : Int32) + (1 : Int32))), .val (.int (3 : Int32)), .val (.int (1 : Int32)), .val (.int c1)]) rfl kt_) ?_
  rw [show ((1 : Int32) + (1 : Int32)) = (2 : Int32) from by decide]
  refine own_by (T' := T11) (g' := (mkF m 41 #[.val (.ref b), .val (.int (2 : Int32)), .val (.ref d), .val (.int (2 : Int32)), .val (.int (3 : Int32)), .val (.int ((1 : Int32) + (1 : Int32))), .val (.int c1)] [])) (fun _ kt_ => XS.iinc X11.here hx rfl (hb hby own_d6_38) rfl (l' := #[.val (.ref b), .val (.int (2 : Int32)), .val (.ref d), .val (.int (2 : Int32)), .val (.int (3 : Int32)), .val (.int ((1 : Int32) + (1 : Int32))), .val (.int c1)]) rfl kt_) ?_
  rw [show ((1 : Int32) + (1 : Int32)) = (2 : Int32) from by decide]
  refine own_by (T' := T11) (g' := (mkF m 3 #[.val (.ref b), .val (.int (2 : Int32)), .val (.ref d), .val (.int (2 : Int32)), .val (.int (3 : Int32)), .val (.int (2 : Int32)), .val (.int c1)] [])) (fun _ kt_ => XS.goto X11.here hx rfl (pc0 := 41) (pc' := 3) rfl (hb hby own_d6_41) (by decide) (by decide) kt_) ?_
  refine own_by (T' := T11) (g' := (mkF m 5 #[.val (.ref b), .val (.int (2 : Int32)), .val (.ref d), .val (.int (2 : Int32)), .val (.int (3 : Int32)), .val (.int (2 : Int32)), .val (.int c1)] [(.int (2 : Int32))])) (fun _ kt_ => XS.iload X11.here hx rfl (hb hby own_d6_3) rfl kt_) ?_
  refine own_by (T' := T11) (g' := (mkF m 7 #[.val (.ref b), .val (.int (2 : Int32)), .val (.ref d), .val (.int (2 : Int32)), .val (.int (3 : Int32)), .val (.int (2 : Int32)), .val (.int c1)] [(.int (3 : Int32)), (.int (2 : Int32))])) (fun _ kt_ => XS.iload X11.here hx rfl (hb hby own_d6_5) rfl kt_) ?_
  refine own_by (T' := T11) (g' := (mkF m 10 #[.val (.ref b), .val (.int (2 : Int32)), .val (.ref d), .val (.int (2 : Int32)), .val (.int (3 : Int32)), .val (.int (2 : Int32)), .val (.int c1)] [])) (fun _ kt_ => XS.icmpNo X11.here hx rfl (hb hby own_d6_7) rfl (XT.ii_ge_f (by decide)) kt_) ?_
  refine own_by (T' := T11) (g' := (mkF m 11 #[.val (.ref b), .val (.int (2 : Int32)), .val (.ref d), .val (.int (2 : Int32)), .val (.int (3 : Int32)), .val (.int (2 : Int32)), .val (.int c1)] [(.ref b)])) (fun _ kt_ => XS.aloadN X11.here hx rfl (hb hby own_d6_10) rfl rfl kt_) ?_
  refine own_by (T' := T11) (g' := (mkF m 12 #[.val (.ref b), .val (.int (2 : Int32)), .val (.ref d), .val (.int (2 : Int32)), .val (.int (3 : Int32)), .val (.int (2 : Int32)), .val (.int c1)] [(.int (2 : Int32)), (.ref b)])) (fun _ kt_ => XS.iloadN X11.here hx rfl (hb hby own_d6_11) rfl kt_) ?_
  have f18 : Arv Z h11 b kC .char (3 : Int32) [(.int c0), (.int c1), (.int c2)] (.int (0 : Int32)) := (f10.keep K12 (ninS ne1 nin0))
  obtain ⟨cl17, Ar17, q17, S17, M17, H17, G17⟩ := id f18
  have hin17 : ¬ ((2 : Int32) < 0 ∨ cl17.slots.size ≤ ((2 : Int32)).toNatClampNeg) := inb_of S17 ⟨by decide, by decide⟩
  have hat17 : cl17.slots[((2 : Int32)).toNatClampNeg]? = some (.int c2) := H17.at hin17 rfl
  refine own_by (T' := T11) (g' := (mkF m 13 #[.val (.ref b), .val (.int (2 : Int32)), .val (.ref d), .val (.int (2 : Int32)), .val (.int (3 : Int32)), .val (.int (2 : Int32)), .val (.int c1)] [(.int c2)])) (fun _ kt_ => X11.caload hx (j := (2 : Int32)) (v := (.int c2)) (by rw [e11]; exact Ar17.1) (State.isArrayOf_alike hZ.alike Ar17.2.1) Ar17.2.2 hin17 hat17 (g := (mkF m 12 #[.val (.ref b), .val (.int (2 : Int32)), .val (.ref d), .val (.int (2 : Int32)), .val (.int (3 : Int32)), .val (.int (2 : Int32)), .val (.int c1)] [(.int (2 : Int32)), (.ref b)])) rfl rfl (hb hby own_d6_12) _ kt_) ?_
  refine own_by (T' := T11) (g' := (mkF m 15 #[.val (.ref b), .val (.int (2 : Int32)), .val (.ref d), .val (.int (2 : Int32)), .val (.int (3 : Int32)), .val (.int (2 : Int32)), .val (.int c2)] [])) (fun _ kt_ => XS.istore X11.here hx rfl (hb hby own_d6_13) rfl (l' := #[.val (.ref b), .val (.int (2 : Int32)), .val (.ref d), .val (.int (2 : Int32)), .val (.int (3 : Int32)), .val (.int (2 : Int32)), .val (.int c2)]) rfl kt_) ?_
  refine own_by (T' := T11) (g' := (mkF m 17 #[.val (.ref b), .val (.int (2 : Int32)), .val (.ref d), .val (.int (2 : Int32)), .val (.int (3 : Int32)), .val (.int (2 : Int32)), .val (.int c2)] [(.int c2)])) (fun _ kt_ => XS.iload X11.here hx rfl (hb hby own_d6_15) rfl kt_) ?_
  refine own_by (T' := T11) (g' := (mkF m 20 #[.val (.ref b), .val (.int (2 : Int32)), .val (.ref d), .val (.int (2 : Int32)), .val (.int (3 : Int32)), .val (.int (2 : Int32)), .val (.int c2)] [(.int (255 : Int32)), (.int c2)])) (fun _ kt_ => XS.sipush X11.here hx rfl (hb hby own_d6_17) kt_) ?_
  refine own_by (T' := T11) (g' := (mkF m 26 #[.val (.ref b), .val (.int (2 : Int32)), .val (.ref d), .val (.int (2 : Int32)), .val (.int (3 : Int32)), .val (.int (2 : Int32)), .val (.int c2)] [])) (fun _ kt_ => XS.icmpYes X11.here hx rfl (pc0 := 20) (pc' := 26) rfl (hb hby own_d6_20) rfl (XT.ii_le_t hp2) (by decide) (by decide) kt_) ?_
  refine own_by (T' := T11) (g' := (mkF m 27 #[.val (.ref b), .val (.int (2 : Int32)), .val (.ref d), .val (.int (2 : Int32)), .val (.int (3 : Int32)), .val (.int (2 : Int32)), .val (.int c2)] [(.ref d)])) (fun _ kt_ => XS.aloadN X11.here hx rfl (hb hby own_d6_26) rfl rfl kt_) ?_
  refine own_by (T' := T11) (g' := (mkF m 28 #[.val (.ref b), .val (.int (2 : Int32)), .val (.ref d), .val (.int (2 : Int32)), .val (.int (3 : Int32)), .val (.int (2 : Int32)), .val (.int c2)] [(.int (2 : Int32)), (.ref d)])) (fun _ kt_ => XS.iloadN X11.here hx rfl (hb hby own_d6_27) rfl kt_) ?_
  refine own_by (T' := T11) (g' := (mkF m 30 #[.val (.ref b), .val (.int (2 : Int32)), .val (.ref d), .val (.int (2 : Int32)), .val (.int (3 : Int32)), .val (.int (2 : Int32)), .val (.int c2)] [(.int c2), (.int (2 : Int32)), (.ref d)])) (fun _ kt_ => XS.iload X11.here hx rfl (hb hby own_d6_28) rfl kt_) ?_
  refine own_by (T' := T11) (g' := (mkF m 31 #[.val (.ref b), .val (.int (2 : Int32)), .val (.ref d), .val (.int (2 : Int32)), .val (.int (3 : Int32)), .val (.int (2 : Int32)), .val (.int c2)] [(.int c2.toInt8.toInt32), (.int (2 : Int32)), (.ref d)])) (fun _ kt_ => XS.i2b X11.here hx rfl (hb hby own_d6_30) rfl kt_) ?_
  obtain ⟨cl19, Ar19, q19, S19, M19, H19, G19⟩ := id f15
  have hin19 : ¬ ((2 : Int32) < 0 ∨ cl19.slots.size ≤ ((2 : Int32)).toNatClampNeg) := inb_of S19 ⟨by decide, by decide⟩
  obtain ⟨T19, h19, X19, e19, W19, st19⟩ := stB X11 hx hZ e11 Ar19 (j := (2 : Int32)) hin19 (g := (mkF m 31 #[.val (.ref b), .val (.int (2 : Int32)), .val (.ref d), .val (.int (2 : Int32)), .val (.int (3 : Int32)), .val (.int (2 : Int32)), .val (.int c2)] [(.int c2.toInt8.toInt32), (.int (2 : Int32)), (.ref d)])) rfl rfl (hb hby own_d6_31)
  rw [show nar .byte c2.toInt8.toInt32 = c2.toInt8.toInt32 from own_narB _] at W19
  have K20 : Keep h11 h19 [d] := Keep.of_wr W19
  have zzK20 : h11.size ≤ h19.size := K20.1
  have oo21 : Old Z n0 h19 := oo13.keep K20 (allS (by omega : n0 ≤ d) all0)
  have kt22 : Keep h0 h19 [d] := kt14.trans K20 (allS (Or.inl (List.mem_of_getElem? (i := 0) rfl)) all0)
  have f23 : Arv Z h19 d kB .byte (3 : Int32) [(.int c0.toInt8.toInt32), (.int c1.toInt8.toInt32), (.int c2.toInt8.toInt32)] (.int (0 : Int32)) := Arv.set Ar19 q19 S19 M19 H19 G19 (fits_nar_byte _) W19 2 rfl (Nat.le_of_ble_eq_true rfl)
  have N24 := Fr.snoc X19 N16 (by omega : n0 ≤ d)
  refine own_by (T' := T19) (g' := (mkF m 32 #[.val (.ref b), .val (.int (2 : Int32)), .val (.ref d), .val (.int (2 : Int32)), .val (.int (3 : Int32)), .val (.int (2 : Int32)), .val (.int c2)] [])) st19 ?_
  refine own_by (T' := T19) (g' := (mkF m 35 #[.val (.ref b), .val (.int ((2 : Int32) + (1 : Int32))), .val (.ref d), .val (.int (2 : Int32)), .val (.int (3 : Int32)), .val (.int (2 : Int32)), .val (.int c2)] [])) (fun _ kt_ => XS.iinc X19.here hx rfl (hb hby own_d6_32) rfl (l' := #[.val (.ref b), .val (.int ((2 : Int32) + (1 : Int32))), .val (.ref d), .val (.int (2 : Int32)), .val (.int (3 : Int32)), .val (.int (2 : Int32)), .val (.int c2)]) rfl kt_) ?_
  rw [show ((2 : Int32) + (1 : Int32)) = (3 : Int32) from by decide]
  refine own_by (T' := T19) (g' := (mkF m 38 #[.val (.ref b), .val (.int (3 : Int32)), .val (.ref d), .val (.int ((2 : Int32) + (1 : Int32))), .val (.int (3 : Int32)), .val (.int (2 : Int32)), .val (.int c2)] [])) (fun _ kt_ => XS.iinc X19.here hx rfl (hb hby own_d6_35) rfl (l' := #[.val (.ref b), .val (.int (3 : Int32)), .val (.ref d), .val (.int ((2 : Int32) + (1 : Int32))), .val (.int (3 : Int32)), .val (.int (2 : Int32)), .val (.int c2)]) rfl kt_) ?_
  rw [show ((2 : Int32) + (1 : Int32)) = (3 : Int32) from by decide]
  refine own_by (T' := T19) (g' := (mkF m 41 #[.val (.ref b), .val (.int (3 : Int32)), .val (.ref d), .val (.int (3 : Int32)), .val (.int (3 : Int32)), .val (.int ((2 : Int32) + (1 : Int32))), .val (.int c2)] [])) (fun _ kt_ => XS.iinc X19.here hx rfl (hb hby own_d6_38) rfl (l' := #[.val (.ref b), .val (.int (3 : Int32)), .val (.ref d), .val (.int (3 : Int32)), .val (.int (3 : Int32)), .val (.int ((2 : Int32) + (1 : Int32))), .val (.int c2)]) rfl kt_) ?_
  rw [show ((2 : Int32) + (1 : Int32)) = (3 : Int32) from by decide]
  refine own_by (T' := T19) (g' := (mkF m 3 #[.val (.ref b), .val (.int (3 : Int32)), .val (.ref d), .val (.int (3 : Int32)), .val (.int (3 : Int32)), .val (.int (3 : Int32)), .val (.int c2)] [])) (fun _ kt_ => XS.goto X19.here hx rfl (pc0 := 41) (pc' := 3) rfl (hb hby own_d6_41) (by decide) (by decide) kt_) ?_
  refine own_by (T' := T19) (g' := (mkF m 5 #[.val (.ref b), .val (.int (3 : Int32)), .val (.ref d), .val (.int (3 : Int32)), .val (.int (3 : Int32)), .val (.int (3 : Int32)), .val (.int c2)] [(.int (3 : Int32))])) (fun _ kt_ => XS.iload X19.here hx rfl (hb hby own_d6_3) rfl kt_) ?_
  refine own_by (T' := T19) (g' := (mkF m 7 #[.val (.ref b), .val (.int (3 : Int32)), .val (.ref d), .val (.int (3 : Int32)), .val (.int (3 : Int32)), .val (.int (3 : Int32)), .val (.int c2)] [(.int (3 : Int32)), (.int (3 : Int32))])) (fun _ kt_ => XS.iload X19.here hx rfl (hb hby own_d6_5) rfl kt_) ?_
  refine own_by (T' := T19) (g' := (mkF m 44 #[.val (.ref b), .val (.int (3 : Int32)), .val (.ref d), .val (.int (3 : Int32)), .val (.int (3 : Int32)), .val (.int (3 : Int32)), .val (.int c2)] [])) (fun _ kt_ => XS.icmpYes X19.here hx rfl (pc0 := 7) (pc' := 44) rfl (hb hby own_d6_7) rfl (XT.ii_ge_t (by decide)) (by decide) (by decide) kt_) ?_
  refine own_by (T' := T19) (g' := (mkF m 46 #[.val (.ref b), .val (.int (3 : Int32)), .val (.ref d), .val (.int (3 : Int32)), .val (.int (3 : Int32)), .val (.int (3 : Int32)), .val (.int c2)] [(.int (3 : Int32))])) (fun _ kt_ => XS.iload X19.here hx rfl (hb hby own_d6_44) rfl kt_) ?_
  obtain ⟨fs25, hr25, hrun25, hended25, hW25, hsame25⟩ := X19.leave (v := some (.int (3 : Int32))) (fun h => by rw [Bd.returns] at h; cases h)
  refine ⟨_, _, retOut X19 hx (t := .int) Bd.returns rfl (Or.inl ⟨rfl, Or.inl rfl, _, rfl⟩) (hb hby own_d6_46) hr25, hrun25, hended25, _, _, rfl, ?_, ⟨_, rfl⟩, hW25, hsame25.mono (by decide) (by decide)⟩
  show Q_rmC5_3 Z zC b d kC kB c0 c1 c2 h0 n0 _ T19.heap _
  rw [e19]
  exact ⟨rfl, N24, kt22, f23⟩
theorem own_ef_rmC3_3 (m : MethodId) (x0 : Addr) (x1 : Int32) (x2 : Int32) : entryFrame m #[(.ref x0), (.int x1), (.int x2)] 6 = mkF m 0 #[.val (.ref x0), .val (.int x1), .val (.int x2), .unset, .unset, .unset] [] := by first | (simp [entryFrame, mkF, argsToLocals, Value.category]; done) | rfl
def Q_rmC3_3 (Z : State) (zC : Int32) (b : Addr) (kC : ClassId) (c0 : Int32) (c1 : Int32) (c2 : Int32) (h0 : Heap) (n0 : Nat) (vv_ : Option Value) (hh_ : Heap) (LL_ : List Loc) : Prop := ∃ d : Addr, ∃ kB : ClassId, vv_ = some (.ref d) ∧ Fr n0 LL_ ∧ Keep h0 hh_ [] ∧ h0.size ≤ d ∧ Arv Z hh_ d kB .byte (3 : Int32) [(.int c0.toInt8.toInt32), (.int c1.toInt8.toInt32), (.int c2.toInt8.toInt32)] (.int (0 : Int32))
set_option maxRecDepth 65536 in
set_option maxHeartbeats 40000000 in
theorem rmC3_3 (l : Launch) (Z : State) (a0 : Array Value) (hw : ∀ d ∈ tables_1, d.before a0 Z = true) (ws : List Jvm.Cond) (zC : Int32) (GS : Glob Z zC) (b : Addr) (kC : ClassId) (c0 : Int32) (c1 : Int32) (c2 : Int32) (h0 : Heap) (n0 : Nat) (Z0 : n0 ≤ h0.size) (O0 : Old Z n0 h0) (Vb : Arv Z h0 b kC .char (3 : Int32) [(.int c0), (.int c1), (.int c2)] (.int (0 : Int32))) (hp0 : ¬ (255 : Int32) < c0) (hp1 : ¬ (255 : Int32) < c1) (hp2 : ¬ (255 : Int32) < c2) :
    MetFree l (⟨"java/lang/StringUTF16", "compress", "([CII)[B"⟩ : MethodName) (head1 (Jvm.Cond.code (⟨"java/lang/StringUTF16", "compress", "([CII)[B"⟩ : MethodName) jdk_52_method_16_code 6 (some (.array .byte)) :: ws) ({ frames := 1, cells := 1, slots := 3, locals := 18 } : Room)) (fun aa_ UU_ => aa_ = #[(.ref b), (.int (0 : Int32)), (.int (3 : Int32))] ∧ Z.Warmed39 UU_.vm ∧ UU_.heap = h0) (fun _ _ _ _ _ => True) (fun _ UU_ oo_ UV_ => ∃ vv_ LL_, oo_ = .returned vv_ ∧ Q_rmC3_3 Z zC b kC c0 c1 c2 h0 n0 vv_ UV_.heap LL_ ∧ FrameEnd UU_ oo_ UV_ LL_ ({ frames := 1, cells := 1, slots := 3, locals := 18 } : Room).cells ({ frames := 1, cells := 1, slots := 3, locals := 18 } : Room).slots) := by
  refine MetFree.of_bodySF (plainFor_of_name own_pn_java_lang_StringUTF16) hisR ?_
  intro p e s m args below meth c s₁ Bd hml0 hP hK
  obtain ⟨rfl, hZ, hh⟩ := hP
  have hx := Bd.exec
  have hby := Bd.bytes
  have hml : c.maxLocals = 6 := hml0
  have hown : s.vm.findClass "java/lang/StringUTF16" = some m.cls := findClass_of_methodNamed Bd.named
  have hnm := (name_of_methodNamed Bd.named Bd.method).1
  have X0 : Stand p l e ({ frames := 1, cells := 1, slots := 3, locals := 18 } : Room) s m #[(.ref b), (.int (0 : Int32)), (.int (3 : Int32))] below meth c s₁ [] 0 0 := Stand.of_body Bd
  have e0 : s₁.heap = h0 := by rw [← hh, Bd.state]; rfl
  have N0 := Fr.nil n0
  have hn0 : Z.heap.size = n0 := O0.1
  have KT0 : Keep h0 h0 [] := Keep.refl _ _
  refine own_enter (Φ := fun oo_ UV_ => ∃ vv_ LL_, oo_ = .returned vv_ ∧ Q_rmC3_3 Z zC b kC c0 c1 c2 h0 n0 vv_ UV_.heap LL_ ∧ FrameEnd s oo_ UV_ LL_ ({ frames := 1, cells := 1, slots := 3, locals := 18 } : Room).cells ({ frames := 1, cells := 1, slots := 3, locals := 18 } : Room).slots) (own_ef_rmC3_3 m b (0 : Int32) (3 : Int32)) ?_
  refine own_by (T' := s₁) (g' := (mkF m 1 #[.val (.ref b), .val (.int (0 : Int32)), .val (.int (3 : Int32)), .unset, .unset, .unset] [(.int (3 : Int32))])) (fun _ kt_ => XS.iloadN X0.here hx rfl (hb hby own_d5_0) rfl kt_) ?_
  obtain ⟨T1, h1, k1, X1, e1, E1, A1, st1⟩ := newP X0 hx hZ (hw _ (List.mem_of_getElem? (i := 23) rfl)) e0 (g := (mkF m 1 #[.val (.ref b), .val (.int (0 : Int32)), .val (.int (3 : Int32)), .unset, .unset, .unset] [(.int (3 : Int32))])) rfl (hb hby own_d5_1) rfl (by decide) (cap := 3) (by decide) (by decide) (by decide) (by decide)
  obtain ⟨b1, g1⟩ : ∃ z, z = h0.size := ⟨_, rfl⟩
  rw [← g1] at A1 st1
  have K2 : Keep h0 h1 [] := own_kext E1
  have zzK2 : h0.size ≤ h1.size := K2.1
  have oo3 : Old Z n0 h1 := O0.keep K2 all0
  have kt4 : Keep h0 h1 [] := KT0.trans K2 all0
  have lab1 : b1 < h1.size := A1.lt
  have f5 : Arv Z h1 b1 k1 .byte (3 : Int32) [(.int (0 : Int32)), (.int (0 : Int32)), (.int (0 : Int32))] (.int (0 : Int32)) := (Arv.new A1 (by decide)).pad (pad_rep [] (.int (0 : Int32)) 3)
  refine own_by (T' := T1) (g' := (mkF m 3 #[.val (.ref b), .val (.int (0 : Int32)), .val (.int (3 : Int32)), .unset, .unset, .unset] [(.ref b1)])) st1 ?_
  refine own_by (T' := T1) (g' := (mkF m 4 #[.val (.ref b), .val (.int (0 : Int32)), .val (.int (3 : Int32)), .val (.ref b1), .unset, .unset] [])) (fun _ kt_ => XS.astoreN X1.here hx rfl (hb hby own_d5_3) rfl rfl (l' := #[.val (.ref b), .val (.int (0 : Int32)), .val (.int (3 : Int32)), .val (.ref b1), .unset, .unset]) rfl kt_) ?_
  refine own_by (T' := T1) (g' := (mkF m 5 #[.val (.ref b), .val (.int (0 : Int32)), .val (.int (3 : Int32)), .val (.ref b1), .unset, .unset] [(.ref b)])) (fun _ kt_ => XS.aloadN X1.here hx rfl (hb hby own_d5_4) rfl rfl kt_) ?_
  refine own_by (T' := T1) (g' := (mkF m 6 #[.val (.ref b), .val (.int (0 : Int32)), .val (.int (3 : Int32)), .val (.ref b1), .unset, .unset] [(.int (0 : Int32)), (.ref b)])) (fun _ kt_ => XS.iloadN X1.here hx rfl (hb hby own_d5_5) rfl kt_) ?_
  refine own_by (T' := T1) (g' := (mkF m 7 #[.val (.ref b), .val (.int (0 : Int32)), .val (.int (3 : Int32)), .val (.ref b1), .unset, .unset] [(.ref b1), (.int (0 : Int32)), (.ref b)])) (fun _ kt_ => XS.aloadN X1.here hx rfl (hb hby own_d5_6) rfl rfl kt_) ?_
  refine own_by (T' := T1) (g' := (mkF m 8 #[.val (.ref b), .val (.int (0 : Int32)), .val (.int (3 : Int32)), .val (.ref b1), .unset, .unset] [(.int (0 : Int32)), (.ref b1), (.int (0 : Int32)), (.ref b)])) (fun _ kt_ => XS.iconst X1.here hx rfl (hb hby own_d5_7) kt_) ?_
  refine own_by (T' := T1) (g' := (mkF m 9 #[.val (.ref b), .val (.int (0 : Int32)), .val (.int (3 : Int32)), .val (.ref b1), .unset, .unset] [(.int (3 : Int32)), (.int (0 : Int32)), (.ref b1), (.int (0 : Int32)), (.ref b)])) (fun _ kt_ => XS.iloadN X1.here hx rfl (hb hby own_d5_8) rfl kt_) ?_
  have f6 : Arv Z h1 b kC .char (3 : Int32) [(.int c0), (.int c1), (.int c2)] (.int (0 : Int32)) := (Vb.keep K2 nin0)
  have la7 : @LT.lt Nat instLTNat b h0.size := Vb.lt
  have ne8 : @Ne Nat b b1 := by omega
  obtain ⟨_, _, ⟨T9, L9, k9, n9⟩, -, X9, ⟨Lc9, hQ9, l9, y9, z9⟩, st9⟩ := Jvm.LawKit.callS X1 hx (y := (⟨"java/lang/StringUTF16", "compress", "([CI[BII)I"⟩ : MethodName)) hown (mvT hZ (hw _ (List.mem_of_getElem? (i := 24) rfl))) (mvT hZ (hw _ (List.mem_of_getElem? (i := 25) rfl))) (mvT hZ (hw _ (List.mem_of_getElem? (i := 21) rfl))) (mvT hZ (hw _ (List.mem_of_getElem? (i := 26) rfl))) (by decide) (backOf (W := 0) (rmC5_3 l Z a0 hw [] zC GS b b1 kC k1 c0 c1 c2 h1 n0 (by omega) oo3 f6 f5 (by omega) ne8 hp0 hp1 hp2) hZ (hw _ (List.mem_of_getElem? (i := 26) rfl)) (hw _ (List.mem_of_getElem? (i := 21) rfl)) (by decide) (by decide)) (g := (mkF m 9 #[.val (.ref b), .val (.int (0 : Int32)), .val (.int (3 : Int32)), .val (.ref b1), .unset, .unset] [(.int (3 : Int32)), (.int (0 : Int32)), (.ref b1), (.int (0 : Int32)), (.ref b)])) rfl (by rw [hml]; rfl) (argsL := [(.ref b), (.int (0 : Int32)), (.ref b1), (.int (0 : Int32)), (.int (3 : Int32))]) (rest := []) (lenOf own_pd_0 rfl) rfl (by show 2 * 0 + _ ≤ _; exact Nat.le_of_eq rfl) (hb hby own_d5_9) (fun _ _ => ⟨rfl, e1, (by decide : 1 + 0 ≤ _), (by decide : 3 + 0 ≤ _)⟩)
  dsimp only [Pt.U, Pt.locs, Pt.cells, Pt.slots] at X9 l9 y9 z9 st9 hQ9
  subst l9 y9 z9
  obtain ⟨rfl, N9q, K9, p9_0⟩ := hQ9
  have N10 := Fr.app N0 N9q
  have zzK9 : h1.size ≤ T9.heap.size := K9.1
  have oo11 : Old Z n0 T9.heap := oo3.keep K9 (allS (by omega : n0 ≤ b1) all0)
  have kt12 : Keep h0 T9.heap [] := kt4.trans K9 (allS (Or.inr (by omega : h0.size ≤ b1)) all0)
  refine own_by (T' := T9) (g' := (mkF m 12 #[.val (.ref b), .val (.int (0 : Int32)), .val (.int (3 : Int32)), .val (.ref b1), .unset, .unset] [(.int (3 : Int32))])) st9 ?_
  refine own_by (T' := T9) (g' := (mkF m 14 #[.val (.ref b), .val (.int (0 : Int32)), .val (.int (3 : Int32)), .val (.ref b1), .val (.int (3 : Int32)), .unset] [])) (fun _ kt_ => XS.istore X9.here hx rfl (hb hby own_d5_12) rfl (l' := #[.val (.ref b), .val (.int (0 : Int32)), .val (.int (3 : Int32)), .val (.ref b1), .val (.int (3 : Int32)), .unset]) rfl kt_) ?_
  refine own_by (T' := T9) (g' := (mkF m 16 #[.val (.ref b), .val (.int (0 : Int32)), .val (.int (3 : Int32)), .val (.ref b1), .val (.int (3 : Int32)), .unset] [(.int (3 : Int32))])) (fun _ kt_ => XS.iload X9.here hx rfl (hb hby own_d5_14) rfl kt_) ?_
  refine own_by (T' := T9) (g' := (mkF m 17 #[.val (.ref b), .val (.int (0 : Int32)), .val (.int (3 : Int32)), .val (.ref b1), .val (.int (3 : Int32)), .unset] [(.int (3 : Int32)), (.int (3 : Int32))])) (fun _ kt_ => XS.iloadN X9.here hx rfl (hb hby own_d5_16) rfl kt_) ?_
  refine own_by (T' := T9) (g' := (mkF m 57 #[.val (.ref b), .val (.int (0 : Int32)), .val (.int (3 : Int32)), .val (.ref b1), .val (.int (3 : Int32)), .unset] [])) (fun _ kt_ => XS.icmpYes X9.here hx rfl (pc0 := 17) (pc' := 57) rfl (hb hby own_d5_17) rfl (XT.ii_eq_t (by decide)) (by decide) (by decide) kt_) ?_
  refine own_by (T' := T9) (g' := (mkF m 58 #[.val (.ref b), .val (.int (0 : Int32)), .val (.int (3 : Int32)), .val (.ref b1), .val (.int (3 : Int32)), .unset] [(.ref b1)])) (fun _ kt_ => XS.aloadN X9.here hx rfl (hb hby own_d5_57) rfl rfl kt_) ?_
  obtain ⟨fs13, hr13, hrun13, hended13, hW13, hsame13⟩ := X9.leave (v := some (.ref b1)) (fun h => by rw [Bd.returns] at h; cases h)
  refine ⟨_, _, retOut X9 hx (t := (.array .byte)) Bd.returns rfl (Or.inr (Or.inr (Or.inr (Or.inr ⟨rfl, rfl, rfl⟩)))) (hb hby own_d5_58) hr13, hrun13, hended13, _, _, rfl, ?_, ⟨_, rfl⟩, hW13, hsame13.mono (by decide) (by decide)⟩
  show Q_rmC3_3 Z zC b kC c0 c1 c2 h0 n0 _ T9.heap _
  exact ⟨b1, k1, rfl, N10, kt12, (by omega), p9_0⟩
theorem own_ef_rmCod_3 (m : MethodId) (x0 : Addr) (x1 : Int32) : entryFrame m #[(.ref x0), (.int x1)] 2 = mkF m 0 #[.val (.ref x0), .val (.int x1)] [] := by first | (simp [entryFrame, mkF, argsToLocals, Value.category]; done) | rfl
def Q_rmCod_3 (Z : State) (zC : Int32) (d : Addr) (kB : ClassId) (b0 : Int32) (b1 : Int32) (b2 : Int32) (h0 : Heap) (n0 : Nat) (vv_ : Option Value) (hh_ : Heap) (LL_ : List Loc) : Prop := vv_ = some (.int (0 : Int32)) ∧ Fr n0 LL_ ∧ hh_ = h0
set_option maxRecDepth 65536 in
set_option maxHeartbeats 40000000 in
theorem rmCod_3 (l : Launch) (Z : State) (a0 : Array Value) (hw : ∀ d ∈ tables_1, d.before a0 Z = true) (ws : List Jvm.Cond) (zC : Int32) (GS : Glob Z zC) (d : Addr) (kB : ClassId) (b0 : Int32) (b1 : Int32) (b2 : Int32) (h0 : Heap) (n0 : Nat) (Z0 : n0 ≤ h0.size) (O0 : Old Z n0 h0) (Vd : Arv Z h0 d kB .byte (3 : Int32) [(.int b0), (.int b1), (.int b2)] (.int (0 : Int32))) :
    MetFree l (⟨"java/lang/StringUTF16", "coderFromArrayLen", "([BI)B"⟩ : MethodName) (head1 (Jvm.Cond.code (⟨"java/lang/StringUTF16", "coderFromArrayLen", "([BI)B"⟩ : MethodName) jdk_52_method_15_code 2 (some .byte) :: ws) ({ frames := 0, cells := 0, slots := 0, locals := 0 } : Room)) (fun aa_ UU_ => aa_ = #[(.ref d), (.int (3 : Int32))] ∧ Z.Warmed39 UU_.vm ∧ UU_.heap = h0) (fun _ _ _ _ _ => True) (fun _ UU_ oo_ UV_ => ∃ vv_ LL_, oo_ = .returned vv_ ∧ Q_rmCod_3 Z zC d kB b0 b1 b2 h0 n0 vv_ UV_.heap LL_ ∧ FrameEnd UU_ oo_ UV_ LL_ ({ frames := 0, cells := 0, slots := 0, locals := 0 } : Room).cells ({ frames := 0, cells := 0, slots := 0, locals := 0 } : Room).slots) := by
  refine MetFree.of_bodySF (plainFor_of_name own_pn_java_lang_StringUTF16) hisR ?_
  intro p e s m args below meth c s₁ Bd hml0 hP hK
  obtain ⟨rfl, hZ, hh⟩ := hP
  have hx := Bd.exec
  have hby := Bd.bytes
  have hml : c.maxLocals = 2 := hml0
  have hown : s.vm.findClass "java/lang/StringUTF16" = some m.cls := findClass_of_methodNamed Bd.named
  have hnm := (name_of_methodNamed Bd.named Bd.method).1
  have X0 : Stand p l e ({ frames := 0, cells := 0, slots := 0, locals := 0 } : Room) s m #[(.ref d), (.int (3 : Int32))] below meth c s₁ [] 0 0 := Stand.of_body Bd
  have e0 : s₁.heap = h0 := by rw [← hh, Bd.state]; rfl
  have N0 := Fr.nil n0
  have hn0 : Z.heap.size = n0 := O0.1
  have KT0 : Keep h0 h0 [] := Keep.refl _ _
  refine own_enter (Φ := fun oo_ UV_ => ∃ vv_ LL_, oo_ = .returned vv_ ∧ Q_rmCod_3 Z zC d kB b0 b1 b2 h0 n0 vv_ UV_.heap LL_ ∧ FrameEnd s oo_ UV_ LL_ ({ frames := 0, cells := 0, slots := 0, locals := 0 } : Room).cells ({ frames := 0, cells := 0, slots := 0, locals := 0 } : Room).slots) (own_ef_rmCod_3 m d (3 : Int32)) ?_
  refine own_by (T' := s₁) (g' := (mkF m 1 #[.val (.ref d), .val (.int (3 : Int32))] [(.int (3 : Int32))])) (fun _ kt_ => XS.iloadN X0.here hx rfl (hb hby own_d7_0) rfl kt_) ?_
  refine own_by (T' := s₁) (g' := (mkF m 2 #[.val (.ref d), .val (.int (3 : Int32))] [(.ref d), (.int (3 : Int32))])) (fun _ kt_ => XS.aloadN X0.here hx rfl (hb hby own_d7_1) rfl rfl kt_) ?_
  obtain ⟨cl1, Ar1, q1, S1, M1, H1, G1⟩ := id Vd
  refine own_by (T' := s₁) (g' := (mkF m 3 #[.val (.ref d), .val (.int (3 : Int32))] [(.int (3 : Int32)), (.int (3 : Int32))])) (fun _ kt_ => X0.arraylength hx (by rw [e0]; exact Ar1.1) (State.isArrayOf_alike hZ.alike Ar1.2.1) (g := (mkF m 2 #[.val (.ref d), .val (.int (3 : Int32))] [(.ref d), (.int (3 : Int32))])) rfl rfl (hb hby own_d7_2) _ (by rw [len_of S1 M1]; exact kt_)) ?_
  refine own_by (T' := s₁) (g' := (mkF m 4 #[.val (.ref d), .val (.int (3 : Int32))] [(.int ((3 : Int32) - (3 : Int32)))])) (fun _ kt_ => XS.isub X0.here hx rfl (hb hby own_d7_3) rfl kt_) ?_
  rw [show ((3 : Int32) - (3 : Int32)) = (0 : Int32) from by decide]
  refine own_by (T' := s₁) (g' := (mkF m 6 #[.val (.ref d), .val (.int (3 : Int32))] [(.int (31 : Int32)), (.int (0 : Int32))])) (fun _ kt_ => XS.bipush X0.here hx rfl (hb hby own_d7_4) kt_) ?_
  refine own_by (T' := s₁) (g' := (mkF m 7 #[.val (.ref d), .val (.int (3 : Int32))] [(.int (((0 : Int32).toUInt32 >>> ((31 : Int32) &&& 31).toUInt32).toInt32))])) (fun _ kt_ => XS.iushr X0.here hx rfl (hb hby own_d7_6) rfl kt_) ?_
  refine own_by (T' := s₁) (g' := (mkF m 8 #[.val (.ref d), .val (.int (3 : Int32))] [(.int (((0 : Int32).toUInt32 >>> ((31 : Int32) &&& 31).toUInt32).toInt32).toInt8.toInt32)])) (fun _ kt_ => XS.i2b X0.here hx rfl (hb hby own_d7_7) rfl kt_) ?_
  have hn2 : nar .byte ((((0 : Int32).toUInt32 >>> ((31 : Int32) &&& 31).toUInt32).toInt32).toInt8.toInt32) = (((0 : Int32).toUInt32 >>> ((31 : Int32) &&& 31).toUInt32).toInt32).toInt8.toInt32 := by decide
  have hr3 : (((0 : Int32).toUInt32 >>> ((31 : Int32) &&& 31).toUInt32).toInt32).toInt8.toInt32 = (0 : Int32) := by decide
  obtain ⟨fs4, hr4, hrun4, hended4, hW4, hsame4⟩ := X0.leave (v := some (.int (nar .byte ((((0 : Int32).toUInt32 >>> ((31 : Int32) &&& 31).toUInt32).toInt32).toInt8.toInt32)))) (fun h => by rw [Bd.returns] at h; cases h)
  refine ⟨_, _, retN X0 hx (t := .byte) Bd.returns (by simp) (hb hby own_d7_8) hr4, hrun4, hended4, _, _, rfl, ?_, ⟨_, rfl⟩, hW4, hsame4.mono (by decide) (by decide)⟩
  show Q_rmCod_3 Z zC d kB b0 b1 b2 h0 n0 _ s₁.heap _
  exact ⟨(congrArg (fun z => some (Value.int z)) (hn2.trans hr3)), N0, e0⟩
theorem own_ef_rmS4_3 (m : MethodId) (x0 : Addr) (x1 : Addr) (x2 : Int32) (x3 : Int32) : entryFrame m #[(.ref x0), (.ref x1), (.int x2), (.int x3), .null] 6 = mkF m 0 #[.val (.ref x0), .val (.ref x1), .val (.int x2), .val (.int x3), .val .null, .unset] [] := by first | (simp [entryFrame, mkF, argsToLocals, Value.category]; done) | rfl
def Q_rmS4_3 (Z : State) (zC : Int32) (x : Addr) (b : Addr) (kC : ClassId) (c0 : Int32) (c1 : Int32) (c2 : Int32) (h0 : Heap) (n0 : Nat) (vv_ : Option Value) (hh_ : Heap) (LL_ : List Loc) : Prop := ∃ t : Addr, ∃ kB : ClassId, vv_ = none ∧ Fr n0 LL_ ∧ Keep h0 hh_ [x] ∧ h0.size ≤ t ∧ Fld Z hh_ x "java/lang/String" "value" "[B" (.ref t) ∧ Fld Z hh_ x "java/lang/String" "coder" "B" (.int (0 : Int32)) ∧ Arv Z hh_ t kB .byte (3 : Int32) [(.int c0.toInt8.toInt32), (.int c1.toInt8.toInt32), (.int c2.toInt8.toInt32)] (.int (0 : Int32))
set_option maxRecDepth 65536 in
set_option maxHeartbeats 40000000 in
theorem rmS4_3 (l : Launch) (Z : State) (a0 : Array Value) (hw : ∀ d ∈ tables_1, d.before a0 Z = true) (ws : List Jvm.Cond) (zC : Int32) (GS : Glob Z zC) (x : Addr) (b : Addr) (kC : ClassId) (c0 : Int32) (c1 : Int32) (c2 : Int32) (h0 : Heap) (n0 : Nat) (Z0 : n0 ≤ h0.size) (O0 : Old Z n0 h0) (E_x : Exa Z h0 x "java/lang/String") (g_x : n0 ≤ x) (Fv : Fld Z h0 x "java/lang/String" "value" "[B" .null) (Fc : Fld Z h0 x "java/lang/String" "coder" "B" (.int (0 : Int32))) (Vb : Arv Z h0 b kC .char (3 : Int32) [(.int c0), (.int c1), (.int c2)] (.int (0 : Int32))) (hbx : b ≠ x) (hp0 : ¬ (255 : Int32) < c0) (hp1 : ¬ (255 : Int32) < c1) (hp2 : ¬ (255 : Int32) < c2) :
    MetFree l (⟨"java/lang/String", "<init>", "([CIILjava/lang/Void;)V"⟩ : MethodName) (head1 (Jvm.Cond.code (⟨"java/lang/String", "<init>", "([CIILjava/lang/Void;)V"⟩ : MethodName) jdk_42_method_149_code 6 none :: ws) ({ frames := 2, cells := 1, slots := 3, locals := 35 } : Room)) (fun aa_ UU_ => aa_ = #[(.ref x), (.ref b), (.int (0 : Int32)), (.int (3 : Int32)), .null] ∧ Z.Warmed39 UU_.vm ∧ UU_.heap = h0) (fun _ _ _ _ _ => True) (fun _ UU_ oo_ UV_ => ∃ vv_ LL_, oo_ = .returned vv_ ∧ Q_rmS4_3 Z zC x b kC c0 c1 c2 h0 n0 vv_ UV_.heap LL_ ∧ FrameEnd UU_ oo_ UV_ LL_ ({ frames := 2, cells := 1, slots := 3, locals := 35 } : Room).cells ({ frames := 2, cells := 1, slots := 3, locals := 35 } : Room).slots) := by
  refine MetFree.of_bodySF (plainFor_of_name own_pn_java_lang_String) hisR ?_
  intro p e s m args below meth c s₁ Bd hml0 hP hK
  obtain ⟨rfl, hZ, hh⟩ := hP
  have hx := Bd.exec
  have hby := Bd.bytes
  have hml : c.maxLocals = 6 := hml0
  have hown : s.vm.findClass "java/lang/String" = some m.cls := findClass_of_methodNamed Bd.named
  have hnm := (name_of_methodNamed Bd.named Bd.method).1
  have X0 : Stand p l e ({ frames := 2, cells := 1, slots := 3, locals := 35 } : Room) s m #[(.ref x), (.ref b), (.int (0 : Int32)), (.int (3 : Int32)), .null] below meth c s₁ [] 0 0 := Stand.of_body Bd
  have e0 : s₁.heap = h0 := by rw [← hh, Bd.state]; rfl
  have N0 := Fr.nil n0
  have hn0 : Z.heap.size = n0 := O0.1
  have KT0 : Keep h0 h0 [x] := Keep.refl _ _
  refine own_enter (Φ := fun oo_ UV_ => ∃ vv_ LL_, oo_ = .returned vv_ ∧ Q_rmS4_3 Z zC x b kC c0 c1 c2 h0 n0 vv_ UV_.heap LL_ ∧ FrameEnd s oo_ UV_ LL_ ({ frames := 2, cells := 1, slots := 3, locals := 35 } : Room).cells ({ frames := 2, cells := 1, slots := 3, locals := 35 } : Room).slots) (own_ef_rmS4_3 m x b (0 : Int32) (3 : Int32)) ?_
  have ne1 : b ≠ x := hbx
  refine own_by (T' := s₁) (g' := (mkF m 1 #[.val (.ref x), .val (.ref b), .val (.int (0 : Int32)), .val (.int (3 : Int32)), .val .null, .unset] [(.ref x)])) (fun _ kt_ => XS.aloadN X0.here hx rfl (hb hby own_d3_0) rfl rfl kt_) ?_
  obtain ⟨T2, X2, e2, st2⟩ := initO X0 hx hZ hown (hw _ (List.mem_of_getElem? (i := 15) rfl)) (hw _ (List.mem_of_getElem? (i := 16) rfl)) (hw _ (List.mem_of_getElem? (i := 17) rfl)) e0 (g := (mkF m 1 #[.val (.ref x), .val (.ref b), .val (.int (0 : Int32)), .val (.int (3 : Int32)), .val .null, .unset] [(.ref x)])) rfl (by rw [hml]; rfl) rfl (hb hby own_d3_1) (by decide) (W := 0) (by show 2 * 0 + _ ≤ _; exact Nat.le_of_eq rfl) (by decide)
  refine own_by (T' := T2) (g' := (mkF m 4 #[.val (.ref x), .val (.ref b), .val (.int (0 : Int32)), .val (.int (3 : Int32)), .val .null, .unset] [])) st2 ?_
  refine own_by (T' := T2) (g' := (mkF m 5 #[.val (.ref x), .val (.ref b), .val (.int (0 : Int32)), .val (.int (3 : Int32)), .val .null, .unset] [(.int (3 : Int32))])) (fun _ kt_ => XS.iloadN X2.here hx rfl (hb hby own_d3_4) rfl kt_) ?_
  refine own_by (T' := T2) (g' := (mkF m 27 #[.val (.ref x), .val (.ref b), .val (.int (0 : Int32)), .val (.int (3 : Int32)), .val .null, .unset] [])) (fun _ kt_ => XS.ifYes X2.here hx rfl (pc0 := 5) (pc' := 27) rfl (hb hby own_d3_5) rfl (XT.i0_ne_t (by decide)) (by decide) (by decide) kt_) ?_
  have f3 := GS.1.ext O0.2
  obtain ⟨T4, X4, e4, st4⟩ := getS2 X2 hx hZ hown (host := "") (Or.inl (hw _ (List.mem_of_getElem? (i := 18) rfl))) Via.refl e2 f3 (g := (mkF m 27 #[.val (.ref x), .val (.ref b), .val (.int (0 : Int32)), .val (.int (3 : Int32)), .val .null, .unset] [])) rfl (hb hby own_d3_27)
  refine own_by (T' := T4) (g' := (mkF m 30 #[.val (.ref x), .val (.ref b), .val (.int (0 : Int32)), .val (.int (3 : Int32)), .val .null, .unset] [(.int zC)])) st4 ?_
  refine own_by (T' := T4) (g' := (mkF m 33 #[.val (.ref x), .val (.ref b), .val (.int (0 : Int32)), .val (.int (3 : Int32)), .val .null, .unset] [])) (fun _ kt_ => XS.ifNo X4.here hx rfl (hb hby own_d3_30) rfl (XT.i0_eq_f GS.2) kt_) ?_
  refine own_by (T' := T4) (g' := (mkF m 34 #[.val (.ref x), .val (.ref b), .val (.int (0 : Int32)), .val (.int (3 : Int32)), .val .null, .unset] [(.ref b)])) (fun _ kt_ => XS.aloadN X4.here hx rfl (hb hby own_d3_33) rfl rfl kt_) ?_
  refine own_by (T' := T4) (g' := (mkF m 35 #[.val (.ref x), .val (.ref b), .val (.int (0 : Int32)), .val (.int (3 : Int32)), .val .null, .unset] [(.int (0 : Int32)), (.ref b)])) (fun _ kt_ => XS.iloadN X4.here hx rfl (hb hby own_d3_34) rfl kt_) ?_
  refine own_by (T' := T4) (g' := (mkF m 36 #[.val (.ref x), .val (.ref b), .val (.int (0 : Int32)), .val (.int (3 : Int32)), .val .null, .unset] [(.int (3 : Int32)), (.int (0 : Int32)), (.ref b)])) (fun _ kt_ => XS.iloadN X4.here hx rfl (hb hby own_d3_35) rfl kt_) ?_
  obtain ⟨_, _, ⟨T5, L5, k5, n5⟩, -, X5, ⟨Lc5, hQ5, l5, y5, z5⟩, st5⟩ := Jvm.LawKit.callS X4 hx (y := (⟨"java/lang/StringUTF16", "compress", "([CII)[B"⟩ : MethodName)) hown (mvT hZ (hw _ (List.mem_of_getElem? (i := 19) rfl))) (mvT hZ (hw _ (List.mem_of_getElem? (i := 20) rfl))) (mvT hZ (hw _ (List.mem_of_getElem? (i := 21) rfl))) (mvT hZ (hw _ (List.mem_of_getElem? (i := 22) rfl))) (by decide) (backOf (W := 0) (rmC3_3 l Z a0 hw [] zC GS b kC c0 c1 c2 h0 n0 (by omega) O0 Vb hp0 hp1 hp2) hZ (hw _ (List.mem_of_getElem? (i := 22) rfl)) (hw _ (List.mem_of_getElem? (i := 21) rfl)) (by decide) (by decide)) (g := (mkF m 36 #[.val (.ref x), .val (.ref b), .val (.int (0 : Int32)), .val (.int (3 : Int32)), .val .null, .unset] [(.int (3 : Int32)), (.int (0 : Int32)), (.ref b)])) rfl (by rw [hml]; rfl) (argsL := [(.ref b), (.int (0 : Int32)), (.int (3 : Int32))]) (rest := []) (lenOf own_pd_1 rfl) rfl (by show 2 * 0 + _ ≤ _; exact Nat.le_of_eq rfl) (hb hby own_d3_36) (fun _ _ => ⟨rfl, e4, (by decide : 0 + 1 ≤ _), (by decide : 0 + 3 ≤ _)⟩)
  dsimp only [Pt.U, Pt.locs, Pt.cells, Pt.slots] at X5 l5 y5 z5 st5 hQ5
  subst l5 y5 z5
  obtain ⟨d_6, kB_7, rfl, N5q, K5, p5_0, p5_1⟩ := hQ5
  have N8 := Fr.app N0 N5q
  have gd_6 : h0.size ≤ d_6 := p5_0
  have zzK5 : h0.size ≤ T5.heap.size := K5.1
  have oo9 : Old Z n0 T5.heap := O0.keep K5 all0
  have kt10 : Keep h0 T5.heap [x] := KT0.trans K5 all0
  refine own_by (T' := T5) (g' := (mkF m 39 #[.val (.ref x), .val (.ref b), .val (.int (0 : Int32)), .val (.int (3 : Int32)), .val .null, .unset] [(.ref d_6)])) st5 ?_
  refine own_by (T' := T5) (g' := (mkF m 41 #[.val (.ref x), .val (.ref b), .val (.int (0 : Int32)), .val (.int (3 : Int32)), .val .null, .val (.ref d_6)] [])) (fun _ kt_ => XS.astore X5.here hx rfl (hb hby own_d3_39) rfl rfl (l' := #[.val (.ref x), .val (.ref b), .val (.int (0 : Int32)), .val (.int (3 : Int32)), .val .null, .val (.ref d_6)]) rfl kt_) ?_
  refine own_by (T' := T5) (g' := (mkF m 42 #[.val (.ref x), .val (.ref b), .val (.int (0 : Int32)), .val (.int (3 : Int32)), .val .null, .val (.ref d_6)] [(.ref x)])) (fun _ kt_ => XS.aloadN X5.here hx rfl (hb hby own_d3_41) rfl rfl kt_) ?_
  refine own_by (T' := T5) (g' := (mkF m 44 #[.val (.ref x), .val (.ref b), .val (.int (0 : Int32)), .val (.int (3 : Int32)), .val .null, .val (.ref d_6)] [(.ref d_6), (.ref x)])) (fun _ kt_ => XS.aload X5.here hx rfl (hb hby own_d3_42) rfl rfl kt_) ?_
  refine own_by (T' := T5) (g' := (mkF m 45 #[.val (.ref x), .val (.ref b), .val (.int (0 : Int32)), .val (.int (3 : Int32)), .val .null, .val (.ref d_6)] [(.int (3 : Int32)), (.ref d_6), (.ref x)])) (fun _ kt_ => XS.iloadN X5.here hx rfl (hb hby own_d3_44) rfl kt_) ?_
  obtain ⟨_, _, ⟨T11, L11, k11, n11⟩, -, X11, ⟨Lc11, hQ11, l11, y11, z11⟩, st11⟩ := Jvm.LawKit.callS X5 hx (y := (⟨"java/lang/StringUTF16", "coderFromArrayLen", "([BI)B"⟩ : MethodName)) hown (mvT hZ (hw _ (List.mem_of_getElem? (i := 27) rfl))) (mvT hZ (hw _ (List.mem_of_getElem? (i := 28) rfl))) (mvT hZ (hw _ (List.mem_of_getElem? (i := 21) rfl))) (mvT hZ (hw _ (List.mem_of_getElem? (i := 29) rfl))) (by decide) (backOf (W := 1) (rmCod_3 l Z a0 hw [] zC GS d_6 kB_7 c0.toInt8.toInt32 c1.toInt8.toInt32 c2.toInt8.toInt32 T5.heap n0 (by omega) oo9 p5_1) hZ (hw _ (List.mem_of_getElem? (i := 29) rfl)) (hw _ (List.mem_of_getElem? (i := 21) rfl)) (by decide) (by decide)) (g := (mkF m 45 #[.val (.ref x), .val (.ref b), .val (.int (0 : Int32)), .val (.int (3 : Int32)), .val .null, .val (.ref d_6)] [(.int (3 : Int32)), (.ref d_6), (.ref x)])) rfl (by rw [hml]; rfl) (argsL := [(.ref d_6), (.int (3 : Int32))]) (rest := [(.ref x)]) (lenOf own_pd_2 rfl) rfl (by show 2 * 0 + _ ≤ _; exact Nat.le_of_eq rfl) (hb hby own_d3_45) (fun _ _ => ⟨rfl, rfl, (by decide : 1 + 0 ≤ _), (by decide : 3 + 0 ≤ _)⟩)
  dsimp only [Pt.U, Pt.locs, Pt.cells, Pt.slots] at X11 l11 y11 z11 st11 hQ11
  subst l11 y11 z11
  obtain ⟨rfl, N11q, e11⟩ := hQ11
  have N12 := Fr.app N8 N11q
  refine own_by (T' := T11) (g' := (mkF m 48 #[.val (.ref x), .val (.ref b), .val (.int (0 : Int32)), .val (.int (3 : Int32)), .val .null, .val (.ref d_6)] [(.int (0 : Int32)), (.ref x)])) st11 ?_
  have f13 : Exa Z T5.heap x "java/lang/String" := (E_x.keep K5)
  have f14 : Fld Z T5.heap x "java/lang/String" "coder" "B" (.int (0 : Int32)) := (Fc.keep K5 nin0)
  obtain ⟨T15, h15, X15, e15, W15, st15⟩ := putFN X11 hx hZ hown (hw _ (List.mem_of_getElem? (i := 30) rfl)) Via.refl e11 f14 f13 (Or.inr ⟨(hw _ (List.mem_of_getElem? (i := 31) rfl)), rfl, hnm⟩) (hw _ (List.mem_of_getElem? (i := 5) rfl)) (ty := .byte) (v' := (.int (0 : Int32).toInt8.toInt32)) (by decide) rfl (fits_nar_byte _) (g := (mkF m 48 #[.val (.ref x), .val (.ref b), .val (.int (0 : Int32)), .val (.int (3 : Int32)), .val .null, .val (.ref d_6)] [(.int (0 : Int32)), (.ref x)])) rfl rfl (hb hby own_d3_48)
  have K16 : Keep T5.heap h15 [x] := Keep.of_wr W15
  have f17 : Fld Z T5.heap x "java/lang/String" "value" "[B" .null := (Fv.keep K5 nin0)
  have zzK16 : T5.heap.size ≤ h15.size := K16.1
  have oo18 : Old Z n0 h15 := oo9.keep K16 (allS (by omega : n0 ≤ x) all0)
  have kt19 : Keep h0 h15 [x] := kt10.trans K16 (allS (Or.inl (List.mem_of_getElem? (i := 0) rfl)) all0)
  have f20 : Fld Z h15 x "java/lang/String" "value" "[B" .null := f17.other W15 (Or.inr (slot_ne (Or.inr (hw _ (List.mem_of_getElem? (i := 33) rfl))) (Or.inr (hw _ (List.mem_of_getElem? (i := 31) rfl))) (by decide) (t := (.array .byte)) (t' := .byte) (by decide) (by decide)))
  have f21 : Fld Z h15 x "java/lang/String" "coder" "B" (.int (0 : Int32).toInt8.toInt32) := f14.same W15
  have N22 := Fr.snoc X15 N12 (by omega : n0 ≤ x)
  refine own_by (T' := T15) (g' := (mkF m 51 #[.val (.ref x), .val (.ref b), .val (.int (0 : Int32)), .val (.int (3 : Int32)), .val .null, .val (.ref d_6)] [])) st15 ?_
  refine own_by (T' := T15) (g' := (mkF m 52 #[.val (.ref x), .val (.ref b), .val (.int (0 : Int32)), .val (.int (3 : Int32)), .val .null, .val (.ref d_6)] [(.ref x)])) (fun _ kt_ => XS.aloadN X15.here hx rfl (hb hby own_d3_51) rfl rfl kt_) ?_
  refine own_by (T' := T15) (g' := (mkF m 54 #[.val (.ref x), .val (.ref b), .val (.int (0 : Int32)), .val (.int (3 : Int32)), .val .null, .val (.ref d_6)] [(.ref d_6), (.ref x)])) (fun _ kt_ => XS.aload X15.here hx rfl (hb hby own_d3_52) rfl rfl kt_) ?_
  have f23 : Exa Z h15 x "java/lang/String" := (f13.keep K16)
  obtain ⟨T24, h24, X24, e24, W24, st24⟩ := putF X15 hx hZ hown (host := "") (Or.inl (hw _ (List.mem_of_getElem? (i := 32) rfl))) Via.refl e15 f20 f23 (Or.inr ⟨(hw _ (List.mem_of_getElem? (i := 33) rfl)), rfl, hnm⟩) (hw _ (List.mem_of_getElem? (i := 5) rfl)) (ty := (.array .byte)) (by decide) rfl rfl (g := (mkF m 54 #[.val (.ref x), .val (.ref b), .val (.int (0 : Int32)), .val (.int (3 : Int32)), .val .null, .val (.ref d_6)] [(.ref d_6), (.ref x)])) rfl rfl (hb hby own_d3_54)
  have K25 : Keep h15 h24 [x] := Keep.of_wr W24
  have zzK25 : h15.size ≤ h24.size := K25.1
  have oo26 : Old Z n0 h24 := oo18.keep K25 (allS (by omega : n0 ≤ x) all0)
  have kt27 : Keep h0 h24 [x] := kt19.trans K25 (allS (Or.inl (List.mem_of_getElem? (i := 0) rfl)) all0)
  have f28 : Fld Z h24 x "java/lang/String" "value" "[B" (.ref d_6) := f20.same W24
  have f29 : Fld Z h24 x "java/lang/String" "coder" "B" (.int (0 : Int32).toInt8.toInt32) := f21.other W24 (Or.inr (slot_ne (Or.inr (hw _ (List.mem_of_getElem? (i := 31) rfl))) (Or.inr (hw _ (List.mem_of_getElem? (i := 33) rfl))) (by decide) (t := .byte) (t' := (.array .byte)) (by decide) (by decide)))
  have N30 := Fr.snoc X24 N22 (by omega : n0 ≤ x)
  refine own_by (T' := T24) (g' := (mkF m 57 #[.val (.ref x), .val (.ref b), .val (.int (0 : Int32)), .val (.int (3 : Int32)), .val .null, .val (.ref d_6)] [])) st24 ?_
  have la31 : @LT.lt Nat instLTNat d_6 T5.heap.size := p5_1.lt
  have hv32 : ((.int (0 : Int32).toInt8.toInt32) : Value) = (.int (0 : Int32)) := rfl
  have la33 : @LT.lt Nat instLTNat x h0.size := E_x.lt
  have ne34 : @Ne Nat d_6 x := by omega
  have f35 : Arv Z h24 d_6 kB_7 .byte (3 : Int32) [(.int c0.toInt8.toInt32), (.int c1.toInt8.toInt32), (.int c2.toInt8.toInt32)] (.int (0 : Int32)) := ((p5_1.keep K16 (ninS ne34 nin0)).keep K25 (ninS ne34 nin0))
  obtain ⟨fs36, hr36, hrun36, hended36, hW36, hsame36⟩ := X24.leave (v := none) (fun _ => rfl)
  refine ⟨_, _, X24.returnOut hx Bd.returns (hb hby own_d3_57) hr36, hrun36, hended36, _, _, rfl, ?_, ⟨_, rfl⟩, hW36, hsame36.mono (by decide) (by decide)⟩
  show Q_rmS4_3 Z zC x b kC c0 c1 c2 h0 n0 _ T24.heap _
  rw [e24]
  exact ⟨d_6, kB_7, rfl, N30, kt27, (by omega), f28, (hv32 ▸ f29), f35⟩
theorem own_ef_rmS1_3 (m : MethodId) (x0 : Addr) (x1 : Addr) : entryFrame m #[(.ref x0), (.ref x1)] 2 = mkF m 0 #[.val (.ref x0), .val (.ref x1)] [] := by first | (simp [entryFrame, mkF, argsToLocals, Value.category]; done) | rfl
def Q_rmS1_3 (Z : State) (zC : Int32) (x : Addr) (b : Addr) (kC : ClassId) (c0 : Int32) (c1 : Int32) (c2 : Int32) (h0 : Heap) (n0 : Nat) (vv_ : Option Value) (hh_ : Heap) (LL_ : List Loc) : Prop := ∃ t : Addr, ∃ kB : ClassId, vv_ = none ∧ Fr n0 LL_ ∧ Keep h0 hh_ [x] ∧ h0.size ≤ t ∧ Fld Z hh_ x "java/lang/String" "value" "[B" (.ref t) ∧ Fld Z hh_ x "java/lang/String" "coder" "B" (.int (0 : Int32)) ∧ Arv Z hh_ t kB .byte (3 : Int32) [(.int c0.toInt8.toInt32), (.int c1.toInt8.toInt32), (.int c2.toInt8.toInt32)] (.int (0 : Int32))
set_option maxRecDepth 65536 in
set_option maxHeartbeats 40000000 in
theorem rmS1_3 (l : Launch) (Z : State) (a0 : Array Value) (hw : ∀ d ∈ tables_1, d.before a0 Z = true) (ws : List Jvm.Cond) (zC : Int32) (GS : Glob Z zC) (x : Addr) (b : Addr) (kC : ClassId) (c0 : Int32) (c1 : Int32) (c2 : Int32) (h0 : Heap) (n0 : Nat) (Z0 : n0 ≤ h0.size) (O0 : Old Z n0 h0) (E_x : Exa Z h0 x "java/lang/String") (g_x : n0 ≤ x) (Fv : Fld Z h0 x "java/lang/String" "value" "[B" .null) (Fc : Fld Z h0 x "java/lang/String" "coder" "B" (.int (0 : Int32))) (Vb : Arv Z h0 b kC .char (3 : Int32) [(.int c0), (.int c1), (.int c2)] (.int (0 : Int32))) (hbx : b ≠ x) (hp0 : ¬ (255 : Int32) < c0) (hp1 : ¬ (255 : Int32) < c1) (hp2 : ¬ (255 : Int32) < c2) :
    MetFree l (⟨"java/lang/String", "<init>", "([C)V"⟩ : MethodName) (head1 (Jvm.Cond.code (⟨"java/lang/String", "<init>", "([C)V"⟩ : MethodName) jdk_42_method_3_code 2 none :: ws) ({ frames := 3, cells := 1, slots := 3, locals := 52 } : Room)) (fun aa_ UU_ => aa_ = #[(.ref x), (.ref b)] ∧ Z.Warmed39 UU_.vm ∧ UU_.heap = h0) (fun _ _ _ _ _ => True) (fun _ UU_ oo_ UV_ => ∃ vv_ LL_, oo_ = .returned vv_ ∧ Q_rmS1_3 Z zC x b kC c0 c1 c2 h0 n0 vv_ UV_.heap LL_ ∧ FrameEnd UU_ oo_ UV_ LL_ ({ frames := 3, cells := 1, slots := 3, locals := 52 } : Room).cells ({ frames := 3, cells := 1, slots := 3, locals := 52 } : Room).slots) := by
  refine MetFree.of_bodySF (plainFor_of_name own_pn_java_lang_String) hisR ?_
  intro p e s m args below meth c s₁ Bd hml0 hP hK
  obtain ⟨rfl, hZ, hh⟩ := hP
  have hx := Bd.exec
  have hby := Bd.bytes
  have hml : c.maxLocals = 2 := hml0
  have hown : s.vm.findClass "java/lang/String" = some m.cls := findClass_of_methodNamed Bd.named
  have hnm := (name_of_methodNamed Bd.named Bd.method).1
  have X0 : Stand p l e ({ frames := 3, cells := 1, slots := 3, locals := 52 } : Room) s m #[(.ref x), (.ref b)] below meth c s₁ [] 0 0 := Stand.of_body Bd
  have e0 : s₁.heap = h0 := by rw [← hh, Bd.state]; rfl
  have N0 := Fr.nil n0
  have hn0 : Z.heap.size = n0 := O0.1
  have KT0 : Keep h0 h0 [x] := Keep.refl _ _
  refine own_enter (Φ := fun oo_ UV_ => ∃ vv_ LL_, oo_ = .returned vv_ ∧ Q_rmS1_3 Z zC x b kC c0 c1 c2 h0 n0 vv_ UV_.heap LL_ ∧ FrameEnd s oo_ UV_ LL_ ({ frames := 3, cells := 1, slots := 3, locals := 52 } : Room).cells ({ frames := 3, cells := 1, slots := 3, locals := 52 } : Room).slots) (own_ef_rmS1_3 m x b) ?_
  have ne1 : b ≠ x := hbx
  refine own_by (T' := s₁) (g' := (mkF m 1 #[.val (.ref x), .val (.ref b)] [(.ref x)])) (fun _ kt_ => XS.aloadN X0.here hx rfl (hb hby own_d2_0) rfl rfl kt_) ?_
  refine own_by (T' := s₁) (g' := (mkF m 2 #[.val (.ref x), .val (.ref b)] [(.ref b), (.ref x)])) (fun _ kt_ => XS.aloadN X0.here hx rfl (hb hby own_d2_1) rfl rfl kt_) ?_
  refine own_by (T' := s₁) (g' := (mkF m 3 #[.val (.ref x), .val (.ref b)] [(.int (0 : Int32)), (.ref b), (.ref x)])) (fun _ kt_ => XS.iconst X0.here hx rfl (hb hby own_d2_2) kt_) ?_
  refine own_by (T' := s₁) (g' := (mkF m 4 #[.val (.ref x), .val (.ref b)] [(.ref b), (.int (0 : Int32)), (.ref b), (.ref x)])) (fun _ kt_ => XS.aloadN X0.here hx rfl (hb hby own_d2_3) rfl rfl kt_) ?_
  obtain ⟨cl2, Ar2, q2, S2, M2, H2, G2⟩ := id Vb
  refine own_by (T' := s₁) (g' := (mkF m 5 #[.val (.ref x), .val (.ref b)] [(.int (3 : Int32)), (.int (0 : Int32)), (.ref b), (.ref x)])) (fun _ kt_ => X0.arraylength hx (by rw [e0]; exact Ar2.1) (State.isArrayOf_alike hZ.alike Ar2.2.1) (g := (mkF m 4 #[.val (.ref x), .val (.ref b)] [(.ref b), (.int (0 : Int32)), (.ref b), (.ref x)])) rfl rfl (hb hby own_d2_4) _ (by rw [len_of S2 M2]; exact kt_)) ?_
  refine own_by (T' := s₁) (g' := (mkF m 6 #[.val (.ref x), .val (.ref b)] [.null, (.int (3 : Int32)), (.int (0 : Int32)), (.ref b), (.ref x)])) (fun _ kt_ => XS.aconstNull X0.here hx rfl (hb hby own_d2_5) kt_) ?_
  have la3 : @LT.lt Nat instLTNat x h0.size := E_x.lt
  obtain ⟨_, _, ⟨T4, L4, k4, n4⟩, -, X4, ⟨Lc4, hQ4, l4, y4, z4⟩, st4⟩ := X0.specialBack hx (y := (⟨"java/lang/String", "<init>", "([CIILjava/lang/Void;)V"⟩ : MethodName)) rfl hown (mvT hZ (hw _ (List.mem_of_getElem? (i := 11) rfl))) (mvT hZ (hw _ (List.mem_of_getElem? (i := 12) rfl))) (mvT hZ (hw _ (List.mem_of_getElem? (i := 14) rfl))) (by decide) (backOf (W := 0) (rmS4_3 l Z a0 hw [] zC GS x b kC c0 c1 c2 h0 n0 (by omega) O0 E_x (by omega) Fv Fc Vb hbx hp0 hp1 hp2) hZ (hw _ (List.mem_of_getElem? (i := 14) rfl)) (hw _ (List.mem_of_getElem? (i := 6) rfl)) (by decide) (by decide)) (g := (mkF m 6 #[.val (.ref x), .val (.ref b)] [.null, (.int (3 : Int32)), (.int (0 : Int32)), (.ref b), (.ref x)])) rfl (by rw [hml]; rfl) (Steps.refl _) (a := x) (argsL := [(.ref b), (.int (0 : Int32)), (.int (3 : Int32)), .null]) (rest := []) (lenOf own_pd_3 rfl) rfl (by show 2 * 0 + _ ≤ _; exact Nat.le_of_eq rfl) (hb hby own_d2_6) (fun _ _ => ⟨rfl, e0, (by decide : 0 + 1 ≤ _), (by decide : 0 + 3 ≤ _)⟩)
  dsimp only [Pt.U, Pt.locs, Pt.cells, Pt.slots] at X4 l4 y4 z4 st4 hQ4
  subst l4 y4 z4
  obtain ⟨t_5, kB_6, rfl, N4q, K4, p4_0, p4_1, p4_2, p4_3⟩ := hQ4
  have N7 := Fr.app N0 N4q
  have gt_5 : h0.size ≤ t_5 := p4_0
  have zzK4 : h0.size ≤ T4.heap.size := K4.1
  have oo8 : Old Z n0 T4.heap := O0.keep K4 (allS (by omega : n0 ≤ x) all0)
  have kt9 : Keep h0 T4.heap [x] := KT0.trans K4 (allS (Or.inl (List.mem_of_getElem? (i := 0) rfl)) all0)
  refine own_by (T' := T4) (g' := (mkF m 9 #[.val (.ref x), .val (.ref b)] [])) (fun _ kt_ => st4.trans kt_) ?_
  have la10 : @LT.lt Nat instLTNat t_5 T4.heap.size := p4_3.lt
  obtain ⟨fs11, hr11, hrun11, hended11, hW11, hsame11⟩ := X4.leave (v := none) (fun _ => rfl)
  refine ⟨_, _, X4.returnOut hx Bd.returns (hb hby own_d2_9) hr11, hrun11, hended11, _, _, rfl, ?_, ⟨_, rfl⟩, hW11, hsame11.mono (by decide) (by decide)⟩
  show Q_rmS1_3 Z zC x b kC c0 c1 c2 h0 n0 _ T4.heap _
  exact ⟨t_5, kB_6, rfl, N7, kt9, (by omega), p4_1, p4_2, p4_3⟩
theorem own_d13_0 : decode jdk_43_method_13_code 0 = .ok (.aload_n 0, 1) := by decide +kernel
theorem own_d13_1 : decode jdk_43_method_13_code 1 = .ok (.arraylength, 1) := by decide +kernel
theorem own_d13_2 : decode jdk_43_method_13_code 2 = .ok (.aload_n 1, 1) := by decide +kernel
theorem own_d13_3 : decode jdk_43_method_13_code 3 = .ok (.arraylength, 1) := by decide +kernel
theorem own_d13_4 : decode jdk_43_method_13_code 4 = .ok (.if_icmp .ne 30, 3) := by decide +kernel
theorem own_d13_7 : decode jdk_43_method_13_code 7 = .ok (.iconst 0, 1) := by decide +kernel
theorem own_d13_8 : decode jdk_43_method_13_code 8 = .ok (.istore_n 2, 1) := by decide +kernel
theorem own_d13_9 : decode jdk_43_method_13_code 9 = .ok (.iload_n 2, 1) := by decide +kernel
theorem own_d13_10 : decode jdk_43_method_13_code 10 = .ok (.aload_n 0, 1) := by decide +kernel
theorem own_d13_11 : decode jdk_43_method_13_code 11 = .ok (.arraylength, 1) := by decide +kernel
theorem own_d13_12 : decode jdk_43_method_13_code 12 = .ok (.if_icmp .ge 20, 3) := by decide +kernel
theorem own_d13_15 : decode jdk_43_method_13_code 15 = .ok (.aload_n 0, 1) := by decide +kernel
theorem own_d13_16 : decode jdk_43_method_13_code 16 = .ok (.iload_n 2, 1) := by decide +kernel
theorem own_d13_17 : decode jdk_43_method_13_code 17 = .ok (.baload, 1) := by decide +kernel
theorem own_d13_18 : decode jdk_43_method_13_code 18 = .ok (.aload_n 1, 1) := by decide +kernel
theorem own_d13_19 : decode jdk_43_method_13_code 19 = .ok (.iload_n 2, 1) := by decide +kernel
theorem own_d13_20 : decode jdk_43_method_13_code 20 = .ok (.baload, 1) := by decide +kernel
theorem own_d13_21 : decode jdk_43_method_13_code 21 = .ok (.if_icmp .eq 5, 3) := by decide +kernel
theorem own_d13_24 : decode jdk_43_method_13_code 24 = .ok (.iconst 0, 1) := by decide +kernel
theorem own_d13_25 : decode jdk_43_method_13_code 25 = .ok (.ireturn, 1) := by decide +kernel
theorem own_d13_26 : decode jdk_43_method_13_code 26 = .ok (.iinc 2 1, 3) := by decide +kernel
theorem own_d13_29 : decode jdk_43_method_13_code 29 = .ok (.goto (-20), 3) := by decide +kernel
theorem own_d13_32 : decode jdk_43_method_13_code 32 = .ok (.iconst 1, 1) := by decide +kernel
theorem own_d13_33 : decode jdk_43_method_13_code 33 = .ok (.ireturn, 1) := by decide +kernel
theorem own_pn_java_lang_StringLatin1 : plainName "java/lang/StringLatin1" = true := by first | (simp [plainName, overriddenIn]; done) | decide +kernel
theorem own_ef_rmLEq_1_1 (m : MethodId) (x0 : Addr) (x1 : Addr) : entryFrame m #[(.ref x0), (.ref x1)] 3 = mkF m 0 #[.val (.ref x0), .val (.ref x1), .unset] [] := by first | (simp [entryFrame, mkF, argsToLocals, Value.category]; done) | rfl
def Q_rmLEq_1_1 (Z : State) (zC : Int32) (d1 : Addr) (d2 : Addr) (k1 : ClassId) (k2 : ClassId) (b0 : Int32) (c0 : Int32) (h0 : Heap) (n0 : Nat) (vv_ : Option Value) (hh_ : Heap) (LL_ : List Loc) : Prop := vv_ = some (.int (if b0 = c0 then (1 : Int32) else (0 : Int32))) ∧ Fr n0 LL_ ∧ hh_ = h0
set_option maxRecDepth 65536 in
set_option maxHeartbeats 40000000 in
theorem rmLEq_1_1 (l : Launch) (Z : State) (a0 : Array Value) (hw : ∀ d ∈ tables_1, d.before a0 Z = true) (ws : List Jvm.Cond) (zC : Int32) (GS : Glob Z zC) (d1 : Addr) (d2 : Addr) (k1 : ClassId) (k2 : ClassId) (b0 : Int32) (c0 : Int32) (h0 : Heap) (n0 : Nat) (Z0 : n0 ≤ h0.size) (O0 : Old Z n0 h0) (V1 : Arv Z h0 d1 k1 .byte (1 : Int32) [(.int b0)] (.int (0 : Int32))) (V2 : Arv Z h0 d2 k2 .byte (1 : Int32) [(.int c0)] (.int (0 : Int32))) :
    MetFree l (⟨"java/lang/StringLatin1", "equals", "([B[B)Z"⟩ : MethodName) (head1 (Jvm.Cond.code (⟨"java/lang/StringLatin1", "equals", "([B[B)Z"⟩ : MethodName) jdk_43_method_13_code 3 (some .boolean) :: ws) ({ frames := 0, cells := 0, slots := 0, locals := 0 } : Room)) (fun aa_ UU_ => aa_ = #[(.ref d1), (.ref d2)] ∧ Z.Warmed39 UU_.vm ∧ UU_.heap = h0) (fun _ _ _ _ _ => True) (fun _ UU_ oo_ UV_ => ∃ vv_ LL_, oo_ = .returned vv_ ∧ Q_rmLEq_1_1 Z zC d1 d2 k1 k2 b0 c0 h0 n0 vv_ UV_.heap LL_ ∧ FrameEnd UU_ oo_ UV_ LL_ ({ frames := 0, cells := 0, slots := 0, locals := 0 } : Room).cells ({ frames := 0, cells := 0, slots := 0, locals := 0 } : Room).slots) := by
  refine MetFree.of_bodySF (plainFor_of_name own_pn_java_lang_StringLatin1) hisR ?_
  intro p e s m args below meth c s₁ Bd hml0 hP hK
  obtain ⟨rfl, hZ, hh⟩ := hP
  have hx := Bd.exec
  have hby := Bd.bytes
  have hml : c.maxLocals = 3 := hml0
  have hown : s.vm.findClass "java/lang/StringLatin1" = some m.cls := findClass_of_methodNamed Bd.named
  have hnm := (name_of_methodNamed Bd.named Bd.method).1
  have X0 : Stand p l e ({ frames := 0, cells := 0, slots := 0, locals := 0 } : Room) s m #[(.ref d1), (.ref d2)] below meth c s₁ [] 0 0 := Stand.of_body Bd
  have e0 : s₁.heap = h0 := by rw [← hh, Bd.state]; rfl
  have N0 := Fr.nil n0
  have hn0 : Z.heap.size = n0 := O0.1
  have KT0 : Keep h0 h0 [] := Keep.refl _ _
  refine own_enter (Φ := fun oo_ UV_ => ∃ vv_ LL_, oo_ = .returned vv_ ∧ Q_rmLEq_1_1 Z zC d1 d2 k1 k2 b0 c0 h0 n0 vv_ UV_.heap LL_ ∧ FrameEnd s oo_ UV_ LL_ ({ frames := 0, cells := 0, slots := 0, locals := 0 } : Room).cells ({ frames := 0, cells := 0, slots := 0, locals := 0 } : Room).slots) (own_ef_rmLEq_1_1 m d1 d2) ?_
  refine own_by (T' := s₁) (g' := (mkF m 1 #[.val (.ref d1), .val (.ref d2), .unset] [(.ref d1)])) (fun _ kt_ => XS.aloadN X0.here hx rfl (hb hby own_d13_0) rfl rfl kt_) ?_
  obtain ⟨cl1, Ar1, q1, S1, M1, H1, G1⟩ := id V1
  refine own_by (T' := s₁) (g' := (mkF m 2 #[.val (.ref d1), .val (.ref d2), .unset] [(.int (1 : Int32))])) (fun _ kt_ => X0.arraylength hx (by rw [e0]; exact Ar1.1) (State.isArrayOf_alike hZ.alike Ar1.2.1) (g := (mkF m 1 #[.val (.ref d1), .val (.ref d2), .unset] [(.ref d1)])) rfl rfl (hb hby own_d13_1) _ (by rw [len_of S1 M1]; exact kt_)) ?_
  refine own_by (T' := s₁) (g' := (mkF m 3 #[.val (.ref d1), .val (.ref d2), .unset] [(.ref d2), (.int (1 : Int32))])) (fun _ kt_ => XS.aloadN X0.here hx rfl (hb hby own_d13_2) rfl rfl kt_) ?_
  obtain ⟨cl2, Ar2, q2, S2, M2, H2, G2⟩ := id V2
  refine own_by (T' := s₁) (g' := (mkF m 4 #[.val (.ref d1), .val (.ref d2), .unset] [(.int (1 : Int32)), (.int (1 : Int32))])) (fun _ kt_ => X0.arraylength hx (by rw [e0]; exact Ar2.1) (State.isArrayOf_alike hZ.alike Ar2.2.1) (g := (mkF m 3 #[.val (.ref d1), .val (.ref d2), .unset] [(.ref d2), (.int (1 : Int32))])) rfl rfl (hb hby own_d13_3) _ (by rw [len_of S2 M2]; exact kt_)) ?_
  refine own_by (T' := s₁) (g' := (mkF m 7 #[.val (.ref d1), .val (.ref d2), .unset] [])) (fun _ kt_ => XS.icmpNo X0.here hx rfl (hb hby own_d13_4) rfl (XT.ii_ne_f (by decide)) kt_) ?_
  refine own_by (T' := s₁) (g' := (mkF m 8 #[.val (.ref d1), .val (.ref d2), .unset] [(.int (0 : Int32))])) (fun _ kt_ => XS.iconst X0.here hx rfl (hb hby own_d13_7) kt_) ?_
  refine own_by (T' := s₁) (g' := (mkF m 9 #[.val (.ref d1), .val (.ref d2), .val (.int (0 : Int32))] [])) (fun _ kt_ => XS.istoreN X0.here hx rfl (hb hby own_d13_8) rfl (l' := #[.val (.ref d1), .val (.ref d2), .val (.int (0 : Int32))]) rfl kt_) ?_
  refine own_by (T' := s₁) (g' := (mkF m 10 #[.val (.ref d1), .val (.ref d2), .val (.int (0 : Int32))] [(.int (0 : Int32))])) (fun _ kt_ => XS.iloadN X0.here hx rfl (hb hby own_d13_9) rfl kt_) ?_
  refine own_by (T' := s₁) (g' := (mkF m 11 #[.val (.ref d1), .val (.ref d2), .val (.int (0 : Int32))] [(.ref d1), (.int (0 : Int32))])) (fun _ kt_ => XS.aloadN X0.here hx rfl (hb hby own_d13_10) rfl rfl kt_) ?_
  obtain ⟨cl3, Ar3, q3, S3, M3, H3, G3⟩ := id V1
  refine own_by (T' := s₁) (g' := (mkF m 12 #[.val (.ref d1), .val (.ref d2), .val (.int (0 : Int32))] [(.int (1 : Int32)), (.int (0 : Int32))])) (fun _ kt_ => X0.arraylength hx (by rw [e0]; exact Ar3.1) (State.isArrayOf_alike hZ.alike Ar3.2.1) (g := (mkF m 11 #[.val (.ref d1), .val (.ref d2), .val (.int (0 : Int32))] [(.ref d1), (.int (0 : Int32))])) rfl rfl (hb hby own_d13_11) _ (by rw [len_of S3 M3]; exact kt_)) ?_
  refine own_by (T' := s₁) (g' := (mkF m 15 #[.val (.ref d1), .val (.ref d2), .val (.int (0 : Int32))] [])) (fun _ kt_ => XS.icmpNo X0.here hx rfl (hb hby own_d13_12) rfl (XT.ii_ge_f (by decide)) kt_) ?_
  refine own_by (T' := s₁) (g' := (mkF m 16 #[.val (.ref d1), .val (.ref d2), .val (.int (0 : Int32))] [(.ref d1)])) (fun _ kt_ => XS.aloadN X0.here hx rfl (hb hby own_d13_15) rfl rfl kt_) ?_
  refine own_by (T' := s₁) (g' := (mkF m 17 #[.val (.ref d1), .val (.ref d2), .val (.int (0 : Int32))] [(.int (0 : Int32)), (.ref d1)])) (fun _ kt_ => XS.iloadN X0.here hx rfl (hb hby own_d13_16) rfl kt_) ?_
  obtain ⟨cl4, Ar4, q4, S4, M4, H4, G4⟩ := id V1
  have hin4 : ¬ ((0 : Int32) < 0 ∨ cl4.slots.size ≤ ((0 : Int32)).toNatClampNeg) := inb_of S4 ⟨by decide, by decide⟩
  have hat4 : cl4.slots[((0 : Int32)).toNatClampNeg]? = some (.int b0) := H4.at hin4 rfl
  refine own_by (T' := s₁) (g' := (mkF m 18 #[.val (.ref d1), .val (.ref d2), .val (.int (0 : Int32))] [(.int b0)])) (fun _ kt_ => X0.baloadBytes hx (j := (0 : Int32)) (v := (.int b0)) (by rw [e0]; exact Ar4.1) (State.isArrayOf_alike hZ.alike Ar4.2.1) Ar4.2.2 hin4 hat4 (g := (mkF m 17 #[.val (.ref d1), .val (.ref d2), .val (.int (0 : Int32))] [(.int (0 : Int32)), (.ref d1)])) rfl rfl (hb hby own_d13_17) _ kt_) ?_
  refine own_by (T' := s₁) (g' := (mkF m 19 #[.val (.ref d1), .val (.ref d2), .val (.int (0 : Int32))] [(.ref d2), (.int b0)])) (fun _ kt_ => XS.aloadN X0.here hx rfl (hb hby own_d13_18) rfl rfl kt_) ?_
  refine own_by (T' := s₁) (g' := (mkF m 20 #[.val (.ref d1), .val (.ref d2), .val (.int (0 : Int32))] [(.int (0 : Int32)), (.ref d2), (.int b0)])) (fun _ kt_ => XS.iloadN X0.here hx rfl (hb hby own_d13_19) rfl kt_) ?_
  obtain ⟨cl5, Ar5, q5, S5, M5, H5, G5⟩ := id V2
  have hin5 : ¬ ((0 : Int32) < 0 ∨ cl5.slots.size ≤ ((0 : Int32)).toNatClampNeg) := inb_of S5 ⟨by decide, by decide⟩
  have hat5 : cl5.slots[((0 : Int32)).toNatClampNeg]? = some (.int c0) := H5.at hin5 rfl
  refine own_by (T' := s₁) (g' := (mkF m 21 #[.val (.ref d1), .val (.ref d2), .val (.int (0 : Int32))] [(.int c0), (.int b0)])) (fun _ kt_ => X0.baloadBytes hx (j := (0 : Int32)) (v := (.int c0)) (by rw [e0]; exact Ar5.1) (State.isArrayOf_alike hZ.alike Ar5.2.1) Ar5.2.2 hin5 hat5 (g := (mkF m 20 #[.val (.ref d1), .val (.ref d2), .val (.int (0 : Int32))] [(.int (0 : Int32)), (.ref d2), (.int b0)])) rfl rfl (hb hby own_d13_20) _ kt_) ?_
  by_cases hc6 : b0 = c0
  · refine own_by (T' := s₁) (g' := (mkF m 26 #[.val (.ref d1), .val (.ref d2), .val (.int (0 : Int32))] [])) (fun _ kt_ => XS.icmpYes X0.here hx rfl (pc0 := 21) (pc' := 26) rfl (hb hby own_d13_21) rfl (XT.ii_eq_t hc6) (by decide) (by decide) kt_) ?_
    refine own_by (T' := s₁) (g' := (mkF m 29 #[.val (.ref d1), .val (.ref d2), .val (.int ((0 : Int32) + (1 : Int32)))] [])) (fun _ kt_ => XS.iinc X0.here hx rfl (hb hby own_d13_26) rfl (l' := #[.val (.ref d1), .val (.ref d2), .val (.int ((0 : Int32) + (1 : Int32)))]) rfl kt_) ?_
    rw [show ((0 : Int32) + (1 : Int32)) = (1 : Int32) from by decide]
    refine own_by (T' := s₁) (g' := (mkF m 9 #[.val (.ref d1), .val (.ref d2), .val (.int (1 : Int32))] [])) (fun _ kt_ => XS.goto X0.here hx rfl (pc0 := 29) (pc' := 9) rfl (hb hby own_d13_29) (by decide) (by decide) kt_) ?_
    refine own_by (T' := s₁) (g' := (mkF m 10 #[.val (.ref d1), .val (.ref d2), .val (.int (1 : Int32))] [(.int (1 : Int32))])) (fun _ kt_ => XS.iloadN X0.here hx rfl (hb hby own_d13_9) rfl kt_) ?_
    refine own_by (T' := s₁) (g' := (mkF m 11 #[.val (.ref d1), .val (.ref d2), .val (.int (1 : Int32))] [(.ref d1), (.int (1 : Int32))])) (fun _ kt_ => XS.aloadN X0.here hx rfl (hb hby own_d13_10) rfl rfl kt_) ?_
    obtain ⟨cl7, Ar7, q7, S7, M7, H7, G7⟩ := id V1
    refine own_by (T' := s₁) (g' := (mkF m 12 #[.val (.ref d1), .val (.ref d2), .val (.int (1 : Int32))] [(.int (1 : Int32)), (.int (1 : Int32))])) (fun _ kt_ => X0.arraylength hx (by rw [e0]; exact Ar7.1) (State.isArrayOf_alike hZ.alike Ar7.2.1) (g := (mkF m 11 #[.val (.ref d1), .val (.ref d2), .val (.int (1 : Int32))] [(.ref d1), (.int (1 : Int32))])) rfl rfl (hb hby own_d13_11) _ (by rw [len_of S7 M7]; exact kt_)) ?_
    refine own_by (T' := s₁) (g' := (mkF m 32 #[.val (.ref d1), .val (.ref d2), .val (.int (1 : Int32))] [])) (fun _ kt_ => XS.icmpYes X0.here hx rfl (pc0 := 12) (pc' := 32) rfl (hb hby own_d13_12) rfl (XT.ii_ge_t (by decide)) (by decide) (by decide) kt_) ?_
    refine own_by (T' := s₁) (g' := (mkF m 33 #[.val (.ref d1), .val (.ref d2), .val (.int (1 : Int32))] [(.int (1 : Int32))])) (fun _ kt_ => XS.iconst X0.here hx rfl (hb hby own_d13_32) kt_) ?_
    have hn8 : nar .boolean (1 : Int32) = (1 : Int32) := rfl
    have hr9 : (1 : Int32) = (if b0 = c0 then (1 : Int32) else (0 : Int32)) := by simp [hc6]
    obtain ⟨fs10, hr10, hrun10, hended10, hW10, hsame10⟩ := X0.leave (v := some (.int (nar .boolean (1 : Int32)))) (fun h => by rw [Bd.returns] at h; cases h)
    refine ⟨_, _, retN X0 hx (t := .boolean) Bd.returns (by simp) (hb hby own_d13_33) hr10, hrun10, hended10, _, _, rfl, ?_, ⟨_, rfl⟩, hW10, hsame10.mono (by decide) (by decide)⟩
    show Q_rmLEq_1_1 Z zC d1 d2 k1 k2 b0 c0 h0 n0 _ s₁.heap _
    exact ⟨(congrArg (fun z => some (Value.int z)) (hn8.trans hr9)), N0, e0⟩
  · refine own_by (T' := s₁) (g' := (mkF m 24 #[.val (.ref d1), .val (.ref d2), .val (.int (0 : Int32))] [])) (fun _ kt_ => XS.icmpNo X0.here hx rfl (hb hby own_d13_21) rfl (XT.ii_eq_f hc6) kt_) ?_
    refine own_by (T' := s₁) (g' := (mkF m 25 #[.val (.ref d1), .val (.ref d2), .val (.int (0 : Int32))] [(.int (0 : Int32))])) (fun _ kt_ => XS.iconst X0.here hx rfl (hb hby own_d13_24) kt_) ?_
    have hn11 : nar .boolean (0 : Int32) = (0 : Int32) := rfl
    have hr12 : (0 : Int32) = (if b0 = c0 then (1 : Int32) else (0 : Int32)) := by simp [hc6]
    obtain ⟨fs13, hr13, hrun13, hended13, hW13, hsame13⟩ := X0.leave (v := some (.int (nar .boolean (0 : Int32)))) (fun h => by rw [Bd.returns] at h; cases h)
    refine ⟨_, _, retN X0 hx (t := .boolean) Bd.returns (by simp) (hb hby own_d13_25) hr13, hrun13, hended13, _, _, rfl, ?_, ⟨_, rfl⟩, hW13, hsame13.mono (by decide) (by decide)⟩
    show Q_rmLEq_1_1 Z zC d1 d2 k1 k2 b0 c0 h0 n0 _ s₁.heap _
    exact ⟨(congrArg (fun z => some (Value.int z)) (hn11.trans hr12)), N0, e0⟩
theorem own_pd_4 : parseMethodDescriptor "([B[B)Z" = some ⟨[(.array .byte), (.array .byte)], some .boolean⟩ := by decide +kernel
theorem own_d12_0 : decode jdk_42_method_66_code 0 = .ok (.aload_n 0, 1) := by decide +kernel
theorem own_d12_1 : decode jdk_42_method_66_code 1 = .ok (.aload_n 1, 1) := by decide +kernel
theorem own_d12_2 : decode jdk_42_method_66_code 2 = .ok (.if_acmp .ne 5, 3) := by decide +kernel
theorem own_d12_7 : decode jdk_42_method_66_code 7 = .ok (.aload_n 1, 1) := by decide +kernel
theorem own_d12_8 : decode jdk_42_method_66_code 8 = .ok (.instanceof 10, 3) := by decide +kernel
theorem own_d12_11 : decode jdk_42_method_66_code 11 = .ok (.ifCond .eq 43, 3) := by decide +kernel
theorem own_d12_14 : decode jdk_42_method_66_code 14 = .ok (.aload_n 1, 1) := by decide +kernel
theorem own_d12_15 : decode jdk_42_method_66_code 15 = .ok (.checkcast 10, 3) := by decide +kernel
theorem own_d12_18 : decode jdk_42_method_66_code 18 = .ok (.astore_n 2, 1) := by decide +kernel
theorem own_d12_19 : decode jdk_42_method_66_code 19 = .ok (.getstatic 38, 3) := by decide +kernel
theorem own_d12_22 : decode jdk_42_method_66_code 22 = .ok (.ifCond .eq 14, 3) := by decide +kernel
theorem own_d12_25 : decode jdk_42_method_66_code 25 = .ok (.aload_n 0, 1) := by decide +kernel
theorem own_d12_26 : decode jdk_42_method_66_code 26 = .ok (.getfield 15, 3) := by decide +kernel
theorem own_d12_29 : decode jdk_42_method_66_code 29 = .ok (.aload_n 2, 1) := by decide +kernel
theorem own_d12_30 : decode jdk_42_method_66_code 30 = .ok (.getfield 15, 3) := by decide +kernel
theorem own_d12_33 : decode jdk_42_method_66_code 33 = .ok (.if_icmp .ne 21, 3) := by decide +kernel
theorem own_d12_36 : decode jdk_42_method_66_code 36 = .ok (.aload_n 0, 1) := by decide +kernel
theorem own_d12_37 : decode jdk_42_method_66_code 37 = .ok (.getfield 9, 3) := by decide +kernel
theorem own_d12_40 : decode jdk_42_method_66_code 40 = .ok (.aload_n 2, 1) := by decide +kernel
theorem own_d12_41 : decode jdk_42_method_66_code 41 = .ok (.getfield 9, 3) := by decide +kernel
theorem own_d12_44 : decode jdk_42_method_66_code 44 = .ok (.invokestatic 541, 3) := by decide +kernel
theorem own_d12_47 : decode jdk_42_method_66_code 47 = .ok (.ifCond .eq 7, 3) := by decide +kernel
theorem own_d12_50 : decode jdk_42_method_66_code 50 = .ok (.iconst 1, 1) := by decide +kernel
theorem own_d12_51 : decode jdk_42_method_66_code 51 = .ok (.goto 4, 3) := by decide +kernel
theorem own_d12_54 : decode jdk_42_method_66_code 54 = .ok (.iconst 0, 1) := by decide +kernel
theorem own_d12_55 : decode jdk_42_method_66_code 55 = .ok (.ireturn, 1) := by decide +kernel
theorem own_ef_rmSEq_1_1 (m : MethodId) (x0 : Addr) (x1 : Addr) : entryFrame m #[(.ref x0), (.ref x1)] 3 = mkF m 0 #[.val (.ref x0), .val (.ref x1), .unset] [] := by first | (simp [entryFrame, mkF, argsToLocals, Value.category]; done) | rfl
def Q_rmSEq_1_1 (Z : State) (zC : Int32) (x : Addr) (y : Addr) (d1 : Addr) (d2 : Addr) (k1 : ClassId) (k2 : ClassId) (b0 : Int32) (c0 : Int32) (h0 : Heap) (n0 : Nat) (vv_ : Option Value) (hh_ : Heap) (LL_ : List Loc) : Prop := vv_ = some (.int (if b0 = c0 then (1 : Int32) else (0 : Int32))) ∧ Fr n0 LL_ ∧ hh_ = h0
set_option maxRecDepth 65536 in
set_option maxHeartbeats 40000000 in
theorem rmSEq_1_1 (l : Launch) (Z : State) (a0 : Array Value) (hw : ∀ d ∈ tables_1, d.before a0 Z = true) (ws : List Jvm.Cond) (zC : Int32) (GS : Glob Z zC) (x : Addr) (y : Addr) (d1 : Addr) (d2 : Addr) (k1 : ClassId) (k2 : ClassId) (b0 : Int32) (c0 : Int32) (h0 : Heap) (n0 : Nat) (Z0 : n0 ≤ h0.size) (O0 : Old Z n0 h0) (hxy : x ≠ y) (Ey : Exa Z h0 y "java/lang/String") (Fc1 : Fld Z h0 x "java/lang/String" "coder" "B" (.int (0 : Int32))) (Fc2 : Fld Z h0 y "java/lang/String" "coder" "B" (.int (0 : Int32))) (Fv1 : Fld Z h0 x "java/lang/String" "value" "[B" (.ref d1)) (Fv2 : Fld Z h0 y "java/lang/String" "value" "[B" (.ref d2)) (V1 : Arv Z h0 d1 k1 .byte (1 : Int32) [(.int b0)] (.int (0 : Int32))) (V2 : Arv Z h0 d2 k2 .byte (1 : Int32) [(.int c0)] (.int (0 : Int32))) :
    MetFree l (⟨"java/lang/String", "equals", "(Ljava/lang/Object;)Z"⟩ : MethodName) (head1 (Jvm.Cond.code (⟨"java/lang/String", "equals", "(Ljava/lang/Object;)Z"⟩ : MethodName) jdk_42_method_66_code 3 (some .boolean) :: ws) ({ frames := 1, cells := 0, slots := 0, locals := 14 } : Room)) (fun aa_ UU_ => aa_ = #[(.ref x), (.ref y)] ∧ Z.Warmed39 UU_.vm ∧ UU_.heap = h0) (fun _ _ _ _ _ => True) (fun _ UU_ oo_ UV_ => ∃ vv_ LL_, oo_ = .returned vv_ ∧ Q_rmSEq_1_1 Z zC x y d1 d2 k1 k2 b0 c0 h0 n0 vv_ UV_.heap LL_ ∧ FrameEnd UU_ oo_ UV_ LL_ ({ frames := 1, cells := 0, slots := 0, locals := 14 } : Room).cells ({ frames := 1, cells := 0, slots := 0, locals := 14 } : Room).slots) := by
  refine MetFree.of_bodySF (plainFor_of_name own_pn_java_lang_String) hisR ?_
  intro p e s m args below meth c s₁ Bd hml0 hP hK
  obtain ⟨rfl, hZ, hh⟩ := hP
  have hx := Bd.exec
  have hby := Bd.bytes
  have hml : c.maxLocals = 3 := hml0
  have hown : s.vm.findClass "java/lang/String" = some m.cls := findClass_of_methodNamed Bd.named
  have hnm := (name_of_methodNamed Bd.named Bd.method).1
  have X0 : Stand p l e ({ frames := 1, cells := 0, slots := 0, locals := 14 } : Room) s m #[(.ref x), (.ref y)] below meth c s₁ [] 0 0 := Stand.of_body Bd
  have e0 : s₁.heap = h0 := by rw [← hh, Bd.state]; rfl
  have N0 := Fr.nil n0
  have hn0 : Z.heap.size = n0 := O0.1
  have KT0 : Keep h0 h0 [] := Keep.refl _ _
  refine own_enter (Φ := fun oo_ UV_ => ∃ vv_ LL_, oo_ = .returned vv_ ∧ Q_rmSEq_1_1 Z zC x y d1 d2 k1 k2 b0 c0 h0 n0 vv_ UV_.heap LL_ ∧ FrameEnd s oo_ UV_ LL_ ({ frames := 1, cells := 0, slots := 0, locals := 14 } : Room).cells ({ frames := 1, cells := 0, slots := 0, locals := 14 } : Room).slots) (own_ef_rmSEq_1_1 m x y) ?_
  have ne1 : x ≠ y := hxy
  refine own_by (T' := s₁) (g' := (mkF m 1 #[.val (.ref x), .val (.ref y), .unset] [(.ref x)])) (fun _ kt_ => XS.aloadN X0.here hx rfl (hb hby own_d12_0) rfl rfl kt_) ?_
  refine own_by (T' := s₁) (g' := (mkF m 2 #[.val (.ref x), .val (.ref y), .unset] [(.ref y), (.ref x)])) (fun _ kt_ => XS.aloadN X0.here hx rfl (hb hby own_d12_1) rfl rfl kt_) ?_
  refine own_by (T' := s₁) (g' := (mkF m 7 #[.val (.ref x), .val (.ref y), .unset] [])) (fun _ kt_ => Jvm.RoadKit.acmp (g := (mkF m 2 #[.val (.ref x), .val (.ref y), .unset] [(.ref y), (.ref x)])) X0 hx rfl rfl rfl (pc0 := 2) (pc' := 7) (same := false) rfl (hb hby own_d12_2) rfl (decide_eq_false fun q => ne1 (Value.ref.inj q)) (by decide) (by decide) kt_) ?_
  refine own_by (T' := s₁) (g' := (mkF m 8 #[.val (.ref x), .val (.ref y), .unset] [(.ref y)])) (fun _ kt_ => XS.aloadN X0.here hx rfl (hb hby own_d12_7) rfl rfl kt_) ?_
  obtain ⟨T2, X2, e2, st2⟩ := instY X0 hx hZ hown (hw _ (List.mem_of_getElem? (i := 68) rfl)) e0 (Ins.self Ey) (g := (mkF m 8 #[.val (.ref x), .val (.ref y), .unset] [(.ref y)])) rfl rfl (hb hby own_d12_8)
  refine own_by (T' := T2) (g' := (mkF m 11 #[.val (.ref x), .val (.ref y), .unset] [(.int (1 : Int32))])) st2 ?_
  refine own_by (T' := T2) (g' := (mkF m 14 #[.val (.ref x), .val (.ref y), .unset] [])) (fun _ kt_ => XS.ifNo X2.here hx rfl (hb hby own_d12_11) rfl (XT.i0_eq_f (by decide)) kt_) ?_
  refine own_by (T' := T2) (g' := (mkF m 15 #[.val (.ref x), .val (.ref y), .unset] [(.ref y)])) (fun _ kt_ => XS.aloadN X2.here hx rfl (hb hby own_d12_14) rfl rfl kt_) ?_
  obtain ⟨T3, X3, e3, st3⟩ := castY X2 hx hZ hown (hw _ (List.mem_of_getElem? (i := 68) rfl)) e2 (Ins.self Ey) (g := (mkF m 15 #[.val (.ref x), .val (.ref y), .unset] [(.ref y)])) rfl rfl (hb hby own_d12_15)
  refine own_by (T' := T3) (g' := (mkF m 18 #[.val (.ref x), .val (.ref y), .unset] [(.ref y)])) st3 ?_
  refine own_by (T' := T3) (g' := (mkF m 19 #[.val (.ref x), .val (.ref y), .val (.ref y)] [])) (fun _ kt_ => XS.astoreN X3.here hx rfl (hb hby own_d12_18) rfl rfl (l' := #[.val (.ref x), .val (.ref y), .val (.ref y)]) rfl kt_) ?_
  have f4 := GS.1.ext O0.2
  obtain ⟨T5, X5, e5, st5⟩ := getS2 X3 hx hZ hown (host := "") (Or.inl (hw _ (List.mem_of_getElem? (i := 18) rfl))) Via.refl e3 f4 (g := (mkF m 19 #[.val (.ref x), .val (.ref y), .val (.ref y)] [])) rfl (hb hby own_d12_19)
  refine own_by (T' := T5) (g' := (mkF m 22 #[.val (.ref x), .val (.ref y), .val (.ref y)] [(.int zC)])) st5 ?_
  refine own_by (T' := T5) (g' := (mkF m 25 #[.val (.ref x), .val (.ref y), .val (.ref y)] [])) (fun _ kt_ => XS.ifNo X5.here hx rfl (hb hby own_d12_22) rfl (XT.i0_eq_f GS.2) kt_) ?_
  refine own_by (T' := T5) (g' := (mkF m 26 #[.val (.ref x), .val (.ref y), .val (.ref y)] [(.ref x)])) (fun _ kt_ => XS.aloadN X5.here hx rfl (hb hby own_d12_25) rfl rfl kt_) ?_
  obtain ⟨T6, X6, e6, st6⟩ := getF X5 hx hZ hown (host := "") (Or.inl (hw _ (List.mem_of_getElem? (i := 30) rfl))) Via.refl e5 Fc1 (g := (mkF m 26 #[.val (.ref x), .val (.ref y), .val (.ref y)] [(.ref x)])) rfl rfl (hb hby own_d12_26)
  refine own_by (T' := T6) (g' := (mkF m 29 #[.val (.ref x), .val (.ref y), .val (.ref y)] [(.int (0 : Int32))])) st6 ?_
  refine own_by (T' := T6) (g' := (mkF m 30 #[.val (.ref x), .val (.ref y), .val (.ref y)] [(.ref y), (.int (0 : Int32))])) (fun _ kt_ => XS.aloadN X6.here hx rfl (hb hby own_d12_29) rfl rfl kt_) ?_
  obtain ⟨T7, X7, e7, st7⟩ := getF X6 hx hZ hown (host := "") (Or.inl (hw _ (List.mem_of_getElem? (i := 30) rfl))) Via.refl e6 Fc2 (g := (mkF m 30 #[.val (.ref x), .val (.ref y), .val (.ref y)] [(.ref y), (.int (0 : Int32))])) rfl rfl (hb hby own_d12_30)
  refine own_by (T' := T7) (g' := (mkF m 33 #[.val (.ref x), .val (.ref y), .val (.ref y)] [(.int (0 : Int32)), (.int (0 : Int32))])) st7 ?_
  refine own_by (T' := T7) (g' := (mkF m 36 #[.val (.ref x), .val (.ref y), .val (.ref y)] [])) (fun _ kt_ => XS.icmpNo X7.here hx rfl (hb hby own_d12_33) rfl (XT.ii_ne_f (by decide)) kt_) ?_
  refine own_by (T' := T7) (g' := (mkF m 37 #[.val (.ref x), .val (.ref y), .val (.ref y)] [(.ref x)])) (fun _ kt_ => XS.aloadN X7.here hx rfl (hb hby own_d12_36) rfl rfl kt_) ?_
  obtain ⟨T8, X8, e8, st8⟩ := getF X7 hx hZ hown (host := "") (Or.inl (hw _ (List.mem_of_getElem? (i := 32) rfl))) Via.refl e7 Fv1 (g := (mkF m 37 #[.val (.ref x), .val (.ref y), .val (.ref y)] [(.ref x)])) rfl rfl (hb hby own_d12_37)
  refine own_by (T' := T8) (g' := (mkF m 40 #[.val (.ref x), .val (.ref y), .val (.ref y)] [(.ref d1)])) st8 ?_
  refine own_by (T' := T8) (g' := (mkF m 41 #[.val (.ref x), .val (.ref y), .val (.ref y)] [(.ref y), (.ref d1)])) (fun _ kt_ => XS.aloadN X8.here hx rfl (hb hby own_d12_40) rfl rfl kt_) ?_
  obtain ⟨T9, X9, e9, st9⟩ := getF X8 hx hZ hown (host := "") (Or.inl (hw _ (List.mem_of_getElem? (i := 32) rfl))) Via.refl e8 Fv2 (g := (mkF m 41 #[.val (.ref x), .val (.ref y), .val (.ref y)] [(.ref y), (.ref d1)])) rfl rfl (hb hby own_d12_41)
  refine own_by (T' := T9) (g' := (mkF m 44 #[.val (.ref x), .val (.ref y), .val (.ref y)] [(.ref d2), (.ref d1)])) st9 ?_
  obtain ⟨_, _, ⟨T10, L10, k10, n10⟩, -, X10, ⟨Lc10, hQ10, l10, y10, z10⟩, st10⟩ := Jvm.LawKit.callS X9 hx (y := (⟨"java/lang/StringLatin1", "equals", "([B[B)Z"⟩ : MethodName)) hown (mvT hZ (hw _ (List.mem_of_getElem? (i := 69) rfl))) (mvT hZ (hw _ (List.mem_of_getElem? (i := 70) rfl))) (mvT hZ (hw _ (List.mem_of_getElem? (i := 71) rfl))) (mvT hZ (hw _ (List.mem_of_getElem? (i := 72) rfl))) (by decide) (backOf (W := 0) (rmLEq_1_1 l Z a0 hw [] zC GS d1 d2 k1 k2 b0 c0 h0 n0 (by omega) O0 V1 V2) hZ (hw _ (List.mem_of_getElem? (i := 72) rfl)) (hw _ (List.mem_of_getElem? (i := 71) rfl)) (by decide) (by decide)) (g := (mkF m 44 #[.val (.ref x), .val (.ref y), .val (.ref y)] [(.ref d2), (.ref d1)])) rfl (by rw [hml]; rfl) (argsL := [(.ref d1), (.ref d2)]) (rest := []) (lenOf own_pd_4 rfl) rfl (by show 2 * 0 + _ ≤ _; exact Nat.le_of_eq rfl) (hb hby own_d12_44) (fun _ _ => ⟨rfl, e9, (by decide : 0 + 0 ≤ _), (by decide : 0 + 0 ≤ _)⟩)
  dsimp only [Pt.U, Pt.locs, Pt.cells, Pt.slots] at X10 l10 y10 z10 st10 hQ10
  subst l10 y10 z10
  obtain ⟨rfl, N10q, e10⟩ := hQ10
  have N11 := Fr.app N0 N10q
  refine own_by (T' := T10) (g' := (mkF m 47 #[.val (.ref x), .val (.ref y), .val (.ref y)] [(.int (if b0 = c0 then (1 : Int32) else (0 : Int32)))])) st10 ?_
  by_cases hc12 : (if b0 = c0 then (1 : Int32) else (0 : Int32)) = (0 : Int32)
  · refine own_by (T' := T10) (g' := (mkF m 54 #[.val (.ref x), .val (.ref y), .val (.ref y)] [])) (fun _ kt_ => XS.ifYes X10.here hx rfl (pc0 := 47) (pc' := 54) rfl (hb hby own_d12_47) rfl (XT.i0_eq_t hc12) (by decide) (by decide) kt_) ?_
    refine own_by (T' := T10) (g' := (mkF m 55 #[.val (.ref x), .val (.ref y), .val (.ref y)] [(.int (0 : Int32))])) (fun _ kt_ => XS.iconst X10.here hx rfl (hb hby own_d12_54) kt_) ?_
    have hn13 : nar .boolean (0 : Int32) = (0 : Int32) := rfl
    have hr14 : (0 : Int32) = (if b0 = c0 then (1 : Int32) else (0 : Int32)) := by first | rfl | (revert hc12; (repeat' split) <;> simp_all) | (revert hc12; simp)
    obtain ⟨fs15, hr15, hrun15, hended15, hW15, hsame15⟩ := X10.leave (v := some (.int (nar .boolean (0 : Int32)))) (fun h => by rw [Bd.returns] at h; cases h)
    refine ⟨_, _, retN X10 hx (t := .boolean) Bd.returns (by simp) (hb hby own_d12_55) hr15, hrun15, hended15, _, _, rfl, ?_, ⟨_, rfl⟩, hW15, hsame15.mono (by decide) (by decide)⟩
    show Q_rmSEq_1_1 Z zC x y d1 d2 k1 k2 b0 c0 h0 n0 _ T10.heap _
    exact ⟨(congrArg (fun z => some (Value.int z)) (hn13.trans hr14)), N11, e10⟩
  · refine own_by (T' := T10) (g' := (mkF m 50 #[.val (.ref x), .val (.ref y), .val (.ref y)] [])) (fun _ kt_ => XS.ifNo X10.here hx rfl (hb hby own_d12_47) rfl (XT.i0_eq_f hc12) kt_) ?_
    refine own_by (T' := T10) (g' := (mkF m 51 #[.val (.ref x), .val (.ref y), .val (.ref y)] [(.int (1 : Int32))])) (fun _ kt_ => XS.iconst X10.here hx rfl (hb hby own_d12_50) kt_) ?_
    refine own_by (T' := T10) (g' := (mkF m 55 #[.val (.ref x), .val (.ref y), .val (.ref y)] [(.int (1 : Int32))])) (fun _ kt_ => XS.goto X10.here hx rfl (pc0 := 51) (pc' := 55) rfl (hb hby own_d12_51) (by decide) (by decide) kt_) ?_
    have hn16 : nar .boolean (1 : Int32) = (1 : Int32) := rfl
    have hr17 : (1 : Int32) = (if b0 = c0 then (1 : Int32) else (0 : Int32)) := by first | rfl | (revert hc12; (repeat' split) <;> simp_all) | (revert hc12; simp)
    obtain ⟨fs18, hr18, hrun18, hended18, hW18, hsame18⟩ := X10.leave (v := some (.int (nar .boolean (1 : Int32)))) (fun h => by rw [Bd.returns] at h; cases h)
    refine ⟨_, _, retN X10 hx (t := .boolean) Bd.returns (by simp) (hb hby own_d12_55) hr18, hrun18, hended18, _, _, rfl, ?_, ⟨_, rfl⟩, hW18, hsame18.mono (by decide) (by decide)⟩
    show Q_rmSEq_1_1 Z zC x y d1 d2 k1 k2 b0 c0 h0 n0 _ T10.heap _
    exact ⟨(congrArg (fun z => some (Value.int z)) (hn16.trans hr17)), N11, e10⟩
theorem own_d13_34 : decode jdk_43_method_13_code 34 = .ok (.iconst 0, 1) := by decide +kernel
theorem own_d13_35 : decode jdk_43_method_13_code 35 = .ok (.ireturn, 1) := by decide +kernel
theorem own_ef_rmLEq_1_2 (m : MethodId) (x0 : Addr) (x1 : Addr) : entryFrame m #[(.ref x0), (.ref x1)] 3 = mkF m 0 #[.val (.ref x0), .val (.ref x1), .unset] [] := by first | (simp [entryFrame, mkF, argsToLocals, Value.category]; done) | rfl
def Q_rmLEq_1_2 (Z : State) (zC : Int32) (d1 : Addr) (d2 : Addr) (k1 : ClassId) (k2 : ClassId) (b0 : Int32) (c0 : Int32) (c1 : Int32) (h0 : Heap) (n0 : Nat) (vv_ : Option Value) (hh_ : Heap) (LL_ : List Loc) : Prop := vv_ = some (.int (0 : Int32)) ∧ Fr n0 LL_ ∧ hh_ = h0
set_option maxRecDepth 65536 in
set_option maxHeartbeats 40000000 in
theorem rmLEq_1_2 (l : Launch) (Z : State) (a0 : Array Value) (hw : ∀ d ∈ tables_1, d.before a0 Z = true) (ws : List Jvm.Cond) (zC : Int32) (GS : Glob Z zC) (d1 : Addr) (d2 : Addr) (k1 : ClassId) (k2 : ClassId) (b0 : Int32) (c0 : Int32) (c1 : Int32) (h0 : Heap) (n0 : Nat) (Z0 : n0 ≤ h0.size) (O0 : Old Z n0 h0) (V1 : Arv Z h0 d1 k1 .byte (1 : Int32) [(.int b0)] (.int (0 : Int32))) (V2 : Arv Z h0 d2 k2 .byte (2 : Int32) [(.int c0), (.int c1)] (.int (0 : Int32))) :
    MetFree l (⟨"java/lang/StringLatin1", "equals", "([B[B)Z"⟩ : MethodName) (head1 (Jvm.Cond.code (⟨"java/lang/StringLatin1", "equals", "([B[B)Z"⟩ : MethodName) jdk_43_method_13_code 3 (some .boolean) :: ws) ({ frames := 0, cells := 0, slots := 0, locals := 0 } : Room)) (fun aa_ UU_ => aa_ = #[(.ref d1), (.ref d2)] ∧ Z.Warmed39 UU_.vm ∧ UU_.heap = h0) (fun _ _ _ _ _ => True) (fun _ UU_ oo_ UV_ => ∃ vv_ LL_, oo_ = .returned vv_ ∧ Q_rmLEq_1_2 Z zC d1 d2 k1 k2 b0 c0 c1 h0 n0 vv_ UV_.heap LL_ ∧ FrameEnd UU_ oo_ UV_ LL_ ({ frames := 0, cells := 0, slots := 0, locals := 0 } : Room).cells ({ frames := 0, cells := 0, slots := 0, locals := 0 } : Room).slots) := by
  refine MetFree.of_bodySF (plainFor_of_name own_pn_java_lang_StringLatin1) hisR ?_
  intro p e s m args below meth c s₁ Bd hml0 hP hK
  obtain ⟨rfl, hZ, hh⟩ := hP
  have hx := Bd.exec
  have hby := Bd.bytes
  have hml : c.maxLocals = 3 := hml0
  have hown : s.vm.findClass "java/lang/StringLatin1" = some m.cls := findClass_of_methodNamed Bd.named
  have hnm := (name_of_methodNamed Bd.named Bd.method).1
  have X0 : Stand p l e ({ frames := 0, cells := 0, slots := 0, locals := 0 } : Room) s m #[(.ref d1), (.ref d2)] below meth c s₁ [] 0 0 := Stand.of_body Bd
  have e0 : s₁.heap = h0 := by rw [← hh, Bd.state]; rfl
  have N0 := Fr.nil n0
  have hn0 : Z.heap.size = n0 := O0.1
  have KT0 : Keep h0 h0 [] := Keep.refl _ _
  refine own_enter (Φ := fun oo_ UV_ => ∃ vv_ LL_, oo_ = .returned vv_ ∧ Q_rmLEq_1_2 Z zC d1 d2 k1 k2 b0 c0 c1 h0 n0 vv_ UV_.heap LL_ ∧ FrameEnd s oo_ UV_ LL_ ({ frames := 0, cells := 0, slots := 0, locals := 0 } : Room).cells ({ frames := 0, cells := 0, slots := 0, locals := 0 } : Room).slots) (own_ef_rmLEq_1_2 m d1 d2) ?_
  refine own_by (T' := s₁) (g' := (mkF m 1 #[.val (.ref d1), .val (.ref d2), .unset] [(.ref d1)])) (fun _ kt_ => XS.aloadN X0.here hx rfl (hb hby own_d13_0) rfl rfl kt_) ?_
  obtain ⟨cl1, Ar1, q1, S1, M1, H1, G1⟩ := id V1
  refine own_by (T' := s₁) (g' := (mkF m 2 #[.val (.ref d1), .val (.ref d2), .unset] [(.int (1 : Int32))])) (fun _ kt_ => X0.arraylength hx (by rw [e0]; exact Ar1.1) (State.isArrayOf_alike hZ.alike Ar1.2.1) (g := (mkF m 1 #[.val (.ref d1), .val (.ref d2), .unset] [(.ref d1)])) rfl rfl (hb hby own_d13_1) _ (by rw [len_of S1 M1]; exact kt_)) ?_
  refine own_by (T' := s₁) (g' := (mkF m 3 #[.val (.ref d1), .val (.ref d2), .unset] [(.ref d2), (.int (1 : Int32))])) (fun _ kt_ => XS.aloadN X0.here hx rfl (hb hby own_d13_2) rfl rfl kt_) ?_
  obtain ⟨cl2, Ar2, q2, S2, M2, H2, G2⟩ := id V2
  refine own_by (T' := s₁) (g' := (mkF m 4 #[.val (.ref d1), .val (.ref d2), .unset] [(.int (2 : Int32)), (.int (1 : Int32))])) (fun _ kt_ => X0.arraylength hx (by rw [e0]; exact Ar2.1) (State.isArrayOf_alike hZ.alike Ar2.2.1) (g := (mkF m 3 #[.val (.ref d1), .val (.ref d2), .unset] [(.ref d2), (.int (1 : Int32))])) rfl rfl (hb hby own_d13_3) _ (by rw [len_of S2 M2]; exact kt_)) ?_
  refine own_by (T' := s₁) (g' := (mkF m 34 #[.val (.ref d1), .val (.ref d2), .unset] [])) (fun _ kt_ => XS.icmpYes X0.here hx rfl (pc0 := 4) (pc' := 34) rfl (hb hby own_d13_4) rfl (XT.ii_ne_t (by decide)) (by decide) (by decide) kt_) ?_
  refine own_by (T' := s₁) (g' := (mkF m 35 #[.val (.ref d1), .val (.ref d2), .unset] [(.int (0 : Int32))])) (fun _ kt_ => XS.iconst X0.here hx rfl (hb hby own_d13_34) kt_) ?_
  have hn3 : nar .boolean (0 : Int32) = (0 : Int32) := rfl
  obtain ⟨fs4, hr4, hrun4, hended4, hW4, hsame4⟩ := X0.leave (v := some (.int (nar .boolean (0 : Int32)))) (fun h => by rw [Bd.returns] at h; cases h)
  refine ⟨_, _, retN X0 hx (t := .boolean) Bd.returns (by simp) (hb hby own_d13_35) hr4, hrun4, hended4, _, _, rfl, ?_, ⟨_, rfl⟩, hW4, hsame4.mono (by decide) (by decide)⟩
  show Q_rmLEq_1_2 Z zC d1 d2 k1 k2 b0 c0 c1 h0 n0 _ s₁.heap _
  exact ⟨(congrArg (fun z => some (Value.int z)) hn3), N0, e0⟩
theorem own_ef_rmSEq_1_2 (m : MethodId) (x0 : Addr) (x1 : Addr) : entryFrame m #[(.ref x0), (.ref x1)] 3 = mkF m 0 #[.val (.ref x0), .val (.ref x1), .unset] [] := by first | (simp [entryFrame, mkF, argsToLocals, Value.category]; done) | rfl
def Q_rmSEq_1_2 (Z : State) (zC : Int32) (x : Addr) (y : Addr) (d1 : Addr) (d2 : Addr) (k1 : ClassId) (k2 : ClassId) (b0 : Int32) (c0 : Int32) (c1 : Int32) (h0 : Heap) (n0 : Nat) (vv_ : Option Value) (hh_ : Heap) (LL_ : List Loc) : Prop := vv_ = some (.int (0 : Int32)) ∧ Fr n0 LL_ ∧ hh_ = h0
set_option maxRecDepth 65536 in
set_option maxHeartbeats 40000000 in
theorem rmSEq_1_2 (l : Launch) (Z : State) (a0 : Array Value) (hw : ∀ d ∈ tables_1, d.before a0 Z = true) (ws : List Jvm.Cond) (zC : Int32) (GS : Glob Z zC) (x : Addr) (y : Addr) (d1 : Addr) (d2 : Addr) (k1 : ClassId) (k2 : ClassId) (b0 : Int32) (c0 : Int32) (c1 : Int32) (h0 : Heap) (n0 : Nat) (Z0 : n0 ≤ h0.size) (O0 : Old Z n0 h0) (hxy : x ≠ y) (Ey : Exa Z h0 y "java/lang/String") (Fc1 : Fld Z h0 x "java/lang/String" "coder" "B" (.int (0 : Int32))) (Fc2 : Fld Z h0 y "java/lang/String" "coder" "B" (.int (0 : Int32))) (Fv1 : Fld Z h0 x "java/lang/String" "value" "[B" (.ref d1)) (Fv2 : Fld Z h0 y "java/lang/String" "value" "[B" (.ref d2)) (V1 : Arv Z h0 d1 k1 .byte (1 : Int32) [(.int b0)] (.int (0 : Int32))) (V2 : Arv Z h0 d2 k2 .byte (2 : Int32) [(.int c0), (.int c1)] (.int (0 : Int32))) :
    MetFree l (⟨"java/lang/String", "equals", "(Ljava/lang/Object;)Z"⟩ : MethodName) (head1 (Jvm.Cond.code (⟨"java/lang/String", "equals", "(Ljava/lang/Object;)Z"⟩ : MethodName) jdk_42_method_66_code 3 (some .boolean) :: ws) ({ frames := 1, cells := 0, slots := 0, locals := 14 } : Room)) (fun aa_ UU_ => aa_ = #[(.ref x), (.ref y)] ∧ Z.Warmed39 UU_.vm ∧ UU_.heap = h0) (fun _ _ _ _ _ => True) (fun _ UU_ oo_ UV_ => ∃ vv_ LL_, oo_ = .returned vv_ ∧ Q_rmSEq_1_2 Z zC x y d1 d2 k1 k2 b0 c0 c1 h0 n0 vv_ UV_.heap LL_ ∧ FrameEnd UU_ oo_ UV_ LL_ ({ frames := 1, cells := 0, slots := 0, locals := 14 } : Room).cells ({ frames := 1, cells := 0, slots := 0, locals := 14 } : Room).slots) := by
  refine MetFree.of_bodySF (plainFor_of_name own_pn_java_lang_String) hisR ?_
  intro p e s m args below meth c s₁ Bd hml0 hP hK
  obtain ⟨rfl, hZ, hh⟩ := hP
  have hx := Bd.exec
  have hby := Bd.bytes
  have hml : c.maxLocals = 3 := hml0
  have hown : s.vm.findClass "java/lang/String" = some m.cls := findClass_of_methodNamed Bd.named
  have hnm := (name_of_methodNamed Bd.named Bd.method).1
  have X0 : Stand p l e ({ frames := 1, cells := 0, slots := 0, locals := 14 } : Room) s m #[(.ref x), (.ref y)] below meth c s₁ [] 0 0 := Stand.of_body Bd
  have e0 : s₁.heap = h0 := by rw [← hh, Bd.state]; rfl
  have N0 := Fr.nil n0
  have hn0 : Z.heap.size = n0 := O0.1
  have KT0 : Keep h0 h0 [] := Keep.refl _ _
  refine own_enter (Φ := fun oo_ UV_ => ∃ vv_ LL_, oo_ = .returned vv_ ∧ Q_rmSEq_1_2 Z zC x y d1 d2 k1 k2 b0 c0 c1 h0 n0 vv_ UV_.heap LL_ ∧ FrameEnd s oo_ UV_ LL_ ({ frames := 1, cells := 0, slots := 0, locals := 14 } : Room).cells ({ frames := 1, cells := 0, slots := 0, locals := 14 } : Room).slots) (own_ef_rmSEq_1_2 m x y) ?_
  have ne1 : x ≠ y := hxy
  refine own_by (T' := s₁) (g' := (mkF m 1 #[.val (.ref x), .val (.ref y), .unset] [(.ref x)])) (fun _ kt_ => XS.aloadN X0.here hx rfl (hb hby own_d12_0) rfl rfl kt_) ?_
  refine own_by (T' := s₁) (g' := (mkF m 2 #[.val (.ref x), .val (.ref y), .unset] [(.ref y), (.ref x)])) (fun _ kt_ => XS.aloadN X0.here hx rfl (hb hby own_d12_1) rfl rfl kt_) ?_
  refine own_by (T' := s₁) (g' := (mkF m 7 #[.val (.ref x), .val (.ref y), .unset] [])) (fun _ kt_ => Jvm.RoadKit.acmp (g := (mkF m 2 #[.val (.ref x), .val (.ref y), .unset] [(.ref y), (.ref x)])) X0 hx rfl rfl rfl (pc0 := 2) (pc' := 7) (same := false) rfl (hb hby own_d12_2) rfl (decide_eq_false fun q => ne1 (Value.ref.inj q)) (by decide) (by decide) kt_) ?_
  refine own_by (T' := s₁) (g' := (mkF m 8 #[.val (.ref x), .val (.ref y), .unset] [(.ref y)])) (fun _ kt_ => XS.aloadN X0.here hx rfl (hb hby own_d12_7) rfl rfl kt_) ?_
  obtain ⟨T2, X2, e2, st2⟩ := instY X0 hx hZ hown (hw _ (List.mem_of_getElem? (i := 68) rfl)) e0 (Ins.self Ey) (g := (mkF m 8 #[.val (.ref x), .val (.ref y), .unset] [(.ref y)])) rfl rfl (hb hby own_d12_8)
  refine own_by (T' := T2) (g' := (mkF m 11 #[.val (.ref x), .val (.ref y), .unset] [(.int (1 : Int32))])) st2 ?_
  refine own_by (T' := T2) (g' := (mkF m 14 #[.val (.ref x), .val (.ref y), .unset] [])) (fun _ kt_ => XS.ifNo X2.here hx rfl (hb hby own_d12_11) rfl (XT.i0_eq_f (by decide)) kt_) ?_
  refine own_by (T' := T2) (g' := (mkF m 15 #[.val (.ref x), .val (.ref y), .unset] [(.ref y)])) (fun _ kt_ => XS.aloadN X2.here hx rfl (hb hby own_d12_14) rfl rfl kt_) ?_
  obtain ⟨T3, X3, e3, st3⟩ := castY X2 hx hZ hown (hw _ (List.mem_of_getElem? (i := 68) rfl)) e2 (Ins.self Ey) (g := (mkF m 15 #[.val (.ref x), .val (.ref y), .unset] [(.ref y)])) rfl rfl (hb hby own_d12_15)
  refine own_by (T' := T3) (g' := (mkF m 18 #[.val (.ref x), .val (.ref y), .unset] [(.ref y)])) st3 ?_
  refine own_by (T' := T3) (g' := (mkF m 19 #[.val (.ref x), .val (.ref y), .val (.ref y)] [])) (fun _ kt_ => XS.astoreN X3.here hx rfl (hb hby own_d12_18) rfl rfl (l' := #[.val (.ref x), .val (.ref y), .val (.ref y)]) rfl kt_) ?_
  have f4 := GS.1.ext O0.2
  obtain ⟨T5, X5, e5, st5⟩ := getS2 X3 hx hZ hown (host := "") (Or.inl (hw _ (List.mem_of_getElem? (i := 18) rfl))) Via.refl e3 f4 (g := (mkF m 19 #[.val (.ref x), .val (.ref y), .val (.ref y)] [])) rfl (hb hby own_d12_19)
  refine own_by (T' := T5) (g' := (mkF m 22 #[.val (.ref x), .val (.ref y), .val (.ref y)] [(.int zC)])) st5 ?_
  refine own_by (T' := T5) (g' := (mkF m 25 #[.val (.ref x), .val (.ref y), .val (.ref y)] [])) (fun _ kt_ => XS.ifNo X5.here hx rfl (hb hby own_d12_22) rfl (XT.i0_eq_f GS.2) kt_) ?_
  refine own_by (T' := T5) (g' := (mkF m 26 #[.val (.ref x), .val (.ref y), .val (.ref y)] [(.ref x)])) (fun _ kt_ => XS.aloadN X5.here hx rfl (hb hby own_d12_25) rfl rfl kt_) ?_
  obtain ⟨T6, X6, e6, st6⟩ := getF X5 hx hZ hown (host := "") (Or.inl (hw _ (List.mem_of_getElem? (i := 30) rfl))) Via.refl e5 Fc1 (g := (mkF m 26 #[.val (.ref x), .val (.ref y), .val (.ref y)] [(.ref x)])) rfl rfl (hb hby own_d12_26)
  refine own_by (T' := T6) (g' := (mkF m 29 #[.val (.ref x), .val (.ref y), .val (.ref y)] [(.int (0 : Int32))])) st6 ?_
  refine own_by (T' := T6) (g' := (mkF m 30 #[.val (.ref x), .val (.ref y), .val (.ref y)] [(.ref y), (.int (0 : Int32))])) (fun _ kt_ => XS.aloadN X6.here hx rfl (hb hby own_d12_29) rfl rfl kt_) ?_
  obtain ⟨T7, X7, e7, st7⟩ := getF X6 hx hZ hown (host := "") (Or.inl (hw _ (List.mem_of_getElem? (i := 30) rfl))) Via.refl e6 Fc2 (g := (mkF m 30 #[.val (.ref x), .val (.ref y), .val (.ref y)] [(.ref y), (.int (0 : Int32))])) rfl rfl (hb hby own_d12_30)
  refine own_by (T' := T7) (g' := (mkF m 33 #[.val (.ref x), .val (.ref y), .val (.ref y)] [(.int (0 : Int32)), (.int (0 : Int32))])) st7 ?_
  refine own_by (T' := T7) (g' := (mkF m 36 #[.val (.ref x), .val (.ref y), .val (.ref y)] [])) (fun _ kt_ => XS.icmpNo X7.here hx rfl (hb hby own_d12_33) rfl (XT.ii_ne_f (by decide)) kt_) ?_
  refine own_by (T' := T7) (g' := (mkF m 37 #[.val (.ref x), .val (.ref y), .val (.ref y)] [(.ref x)])) (fun _ kt_ => XS.aloadN X7.here hx rfl (hb hby own_d12_36) rfl rfl kt_) ?_
  obtain ⟨T8, X8, e8, st8⟩ := getF X7 hx hZ hown (host := "") (Or.inl (hw _ (List.mem_of_getElem? (i := 32) rfl))) Via.refl e7 Fv1 (g := (mkF m 37 #[.val (.ref x), .val (.ref y), .val (.ref y)] [(.ref x)])) rfl rfl (hb hby own_d12_37)
  refine own_by (T' := T8) (g' := (mkF m 40 #[.val (.ref x), .val (.ref y), .val (.ref y)] [(.ref d1)])) st8 ?_
  refine own_by (T' := T8) (g' := (mkF m 41 #[.val (.ref x), .val (.ref y), .val (.ref y)] [(.ref y), (.ref d1)])) (fun _ kt_ => XS.aloadN X8.here hx rfl (hb hby own_d12_40) rfl rfl kt_) ?_
  obtain ⟨T9, X9, e9, st9⟩ := getF X8 hx hZ hown (host := "") (Or.inl (hw _ (List.mem_of_getElem? (i := 32) rfl))) Via.refl e8 Fv2 (g := (mkF m 41 #[.val (.ref x), .val (.ref y), .val (.ref y)] [(.ref y), (.ref d1)])) rfl rfl (hb hby own_d12_41)
  refine own_by (T' := T9) (g' := (mkF m 44 #[.val (.ref x), .val (.ref y), .val (.ref y)] [(.ref d2), (.ref d1)])) st9 ?_
  obtain ⟨_, _, ⟨T10, L10, k10, n10⟩, -, X10, ⟨Lc10, hQ10, l10, y10, z10⟩, st10⟩ := Jvm.LawKit.callS X9 hx (y := (⟨"java/lang/StringLatin1", "equals", "([B[B)Z"⟩ : MethodName)) hown (mvT hZ (hw _ (List.mem_of_getElem? (i := 69) rfl))) (mvT hZ (hw _ (List.mem_of_getElem? (i := 70) rfl))) (mvT hZ (hw _ (List.mem_of_getElem? (i := 71) rfl))) (mvT hZ (hw _ (List.mem_of_getElem? (i := 72) rfl))) (by decide) (backOf (W := 0) (rmLEq_1_2 l Z a0 hw [] zC GS d1 d2 k1 k2 b0 c0 c1 h0 n0 (by omega) O0 V1 V2) hZ (hw _ (List.mem_of_getElem? (i := 72) rfl)) (hw _ (List.mem_of_getElem? (i := 71) rfl)) (by decide) (by decide)) (g := (mkF m 44 #[.val (.ref x), .val (.ref y), .val (.ref y)] [(.ref d2), (.ref d1)])) rfl (by rw [hml]; rfl) (argsL := [(.ref d1), (.ref d2)]) (rest := []) (lenOf own_pd_4 rfl) rfl (by show 2 * 0 + _ ≤ _; exact Nat.le_of_eq rfl) (hb hby own_d12_44) (fun _ _ => ⟨rfl, e9, (by decide : 0 + 0 ≤ _), (by decide : 0 + 0 ≤ _)⟩)
  dsimp only [Pt.U, Pt.locs, Pt.cells, Pt.slots] at X10 l10 y10 z10 st10 hQ10
  subst l10 y10 z10
  obtain ⟨rfl, N10q, e10⟩ := hQ10
  have N11 := Fr.app N0 N10q
  refine own_by (T' := T10) (g' := (mkF m 47 #[.val (.ref x), .val (.ref y), .val (.ref y)] [(.int (0 : Int32))])) st10 ?_
  refine own_by (T' := T10) (g' := (mkF m 54 #[.val (.ref x), .val (.ref y), .val (.ref y)] [])) (fun _ kt_ => XS.ifYes X10.here hx rfl (pc0 := 47) (pc' := 54) rfl (hb hby own_d12_47) rfl (XT.i0_eq_t (by decide)) (by decide) (by decide) kt_) ?_
  refine own_by (T' := T10) (g' := (mkF m 55 #[.val (.ref x), .val (.ref y), .val (.ref y)] [(.int (0 : Int32))])) (fun _ kt_ => XS.iconst X10.here hx rfl (hb hby own_d12_54) kt_) ?_
  have hn12 : nar .boolean (0 : Int32) = (0 : Int32) := rfl
  obtain ⟨fs13, hr13, hrun13, hended13, hW13, hsame13⟩ := X10.leave (v := some (.int (nar .boolean (0 : Int32)))) (fun h => by rw [Bd.returns] at h; cases h)
  refine ⟨_, _, retN X10 hx (t := .boolean) Bd.returns (by simp) (hb hby own_d12_55) hr13, hrun13, hended13, _, _, rfl, ?_, ⟨_, rfl⟩, hW13, hsame13.mono (by decide) (by decide)⟩
  show Q_rmSEq_1_2 Z zC x y d1 d2 k1 k2 b0 c0 c1 h0 n0 _ T10.heap _
  exact ⟨(congrArg (fun z => some (Value.int z)) hn12), N11, e10⟩
theorem own_ef_rmLEq_1_3 (m : MethodId) (x0 : Addr) (x1 : Addr) : entryFrame m #[(.ref x0), (.ref x1)] 3 = mkF m 0 #[.val (.ref x0), .val (.ref x1), .unset] [] := by first | (simp [entryFrame, mkF, argsToLocals, Value.category]; done) | rfl
def Q_rmLEq_1_3 (Z : State) (zC : Int32) (d1 : Addr) (d2 : Addr) (k1 : ClassId) (k2 : ClassId) (b0 : Int32) (c0 : Int32) (c1 : Int32) (c2 : Int32) (h0 : Heap) (n0 : Nat) (vv_ : Option Value) (hh_ : Heap) (LL_ : List Loc) : Prop := vv_ = some (.int (0 : Int32)) ∧ Fr n0 LL_ ∧ hh_ = h0
set_option maxRecDepth 65536 in
set_option maxHeartbeats 40000000 in
theorem rmLEq_1_3 (l : Launch) (Z : State) (a0 : Array Value) (hw : ∀ d ∈ tables_1, d.before a0 Z = true) (ws : List Jvm.Cond) (zC : Int32) (GS : Glob Z zC) (d1 : Addr) (d2 : Addr) (k1 : ClassId) (k2 : ClassId) (b0 : Int32) (c0 : Int32) (c1 : Int32) (c2 : Int32) (h0 : Heap) (n0 : Nat) (Z0 : n0 ≤ h0.size) (O0 : Old Z n0 h0) (V1 : Arv Z h0 d1 k1 .byte (1 : Int32) [(.int b0)] (.int (0 : Int32))) (V2 : Arv Z h0 d2 k2 .byte (3 : Int32) [(.int c0), (.int c1), (.int c2)] (.int (0 : Int32))) :
    MetFree l (⟨"java/lang/StringLatin1", "equals", "([B[B)Z"⟩ : MethodName) (head1 (Jvm.Cond.code (⟨"java/lang/StringLatin1", "equals", "([B[B)Z"⟩ : MethodName) jdk_43_method_13_code 3 (some .boolean) :: ws) ({ frames := 0, cells := 0, slots := 0, locals := 0 } : Room)) (fun aa_ UU_ => aa_ = #[(.ref d1), (.ref d2)] ∧ Z.Warmed39 UU_.vm ∧ UU_.heap = h0) (fun _ _ _ _ _ => True) (fun _ UU_ oo_ UV_ => ∃ vv_ LL_, oo_ = .returned vv_ ∧ Q_rmLEq_1_3 Z zC d1 d2 k1 k2 b0 c0 c1 c2 h0 n0 vv_ UV_.heap LL_ ∧ FrameEnd UU_ oo_ UV_ LL_ ({ frames := 0, cells := 0, slots := 0, locals := 0 } : Room).cells ({ frames := 0, cells := 0, slots := 0, locals := 0 } : Room).slots) := by
  refine MetFree.of_bodySF (plainFor_of_name own_pn_java_lang_StringLatin1) hisR ?_
  intro p e s m args below meth c s₁ Bd hml0 hP hK
  obtain ⟨rfl, hZ, hh⟩ := hP
  have hx := Bd.exec
  have hby := Bd.bytes
  have hml : c.maxLocals = 3 := hml0
  have hown : s.vm.findClass "java/lang/StringLatin1" = some m.cls := findClass_of_methodNamed Bd.named
  have hnm := (name_of_methodNamed Bd.named Bd.method).1
  have X0 : Stand p l e ({ frames := 0, cells := 0, slots := 0, locals := 0 } : Room) s m #[(.ref d1), (.ref d2)] below meth c s₁ [] 0 0 := Stand.of_body Bd
  have e0 : s₁.heap = h0 := by rw [← hh, Bd.state]; rfl
  have N0 := Fr.nil n0
  have hn0 : Z.heap.size = n0 := O0.1
  have KT0 : Keep h0 h0 [] := Keep.refl _ _
  refine own_enter (Φ := fun oo_ UV_ => ∃ vv_ LL_, oo_ = .returned vv_ ∧ Q_rmLEq_1_3 Z zC d1 d2 k1 k2 b0 c0 c1 c2 h0 n0 vv_ UV_.heap LL_ ∧ FrameEnd s oo_ UV_ LL_ ({ frames := 0, cells := 0, slots := 0, locals := 0 } : Room).cells ({ frames := 0, cells := 0, slots := 0, locals := 0 } : Room).slots) (own_ef_rmLEq_1_3 m d1 d2) ?_
  refine own_by (T' := s₁) (g' := (mkF m 1 #[.val (.ref d1), .val (.ref d2), .unset] [(.ref d1)])) (fun _ kt_ => XS.aloadN X0.here hx rfl (hb hby own_d13_0) rfl rfl kt_) ?_
  obtain ⟨cl1, Ar1, q1, S1, M1, H1, G1⟩ := id V1
  refine own_by (T' := s₁) (g' := (mkF m 2 #[.val (.ref d1), .val (.ref d2), .unset] [(.int (1 : Int32))])) (fun _ kt_ => X0.arraylength hx (by rw [e0]; exact Ar1.1) (State.isArrayOf_alike hZ.alike Ar1.2.1) (g := (mkF m 1 #[.val (.ref d1), .val (.ref d2), .unset] [(.ref d1)])) rfl rfl (hb hby own_d13_1) _ (by rw [len_of S1 M1]; exact kt_)) ?_
  refine own_by (T' := s₁) (g' := (mkF m 3 #[.val (.ref d1), .val (.ref d2), .unset] [(.ref d2), (.int (1 : Int32))])) (fun _ kt_ => XS.aloadN X0.here hx rfl (hb hby own_d13_2) rfl rfl kt_) ?_
  obtain ⟨cl2, Ar2, q2, S2, M2, H2, G2⟩ := id V2
  refine own_by (T' := s₁) (g' := (mkF m 4 #[.val (.ref d1), .val (.ref d2), .unset] [(.int (3 : Int32)), (.int (1 : Int32))])) (fun _ kt_ => X0.arraylength hx (by rw [e0]; exact Ar2.1) (State.isArrayOf_alike hZ.alike Ar2.2.1) (g := (mkF m 3 #[.val (.ref d1), .val (.ref d2), .unset] [(.ref d2), (.int (1 : Int32))])) rfl rfl (hb hby own_d13_3) _ (by rw [len_of S2 M2]; exact kt_)) ?_
  refine own_by (T' := s₁) (g' := (mkF m 34 #[.val (.ref d1), .val (.ref d2), .unset] [])) (fun _ kt_ => XS.icmpYes X0.here hx rfl (pc0 := 4) (pc' := 34) rfl (hb hby own_d13_4) rfl (XT.ii_ne_t (by decide)) (by decide) (by decide) kt_) ?_
  refine own_by (T' := s₁) (g' := (mkF m 35 #[.val (.ref d1), .val (.ref d2), .unset] [(.int (0 : Int32))])) (fun _ kt_ => XS.iconst X0.here hx rfl (hb hby own_d13_34) kt_) ?_
  have hn3 : nar .boolean (0 : Int32) = (0 : Int32) := rfl
  obtain ⟨fs4, hr4, hrun4, hended4, hW4, hsame4⟩ := X0.leave (v := some (.int (nar .boolean (0 : Int32)))) (fun h => by rw [Bd.returns] at h; cases h)
  refine ⟨_, _, retN X0 hx (t := .boolean) Bd.returns (by simp) (hb hby own_d13_35) hr4, hrun4, hended4, _, _, rfl, ?_, ⟨_, rfl⟩, hW4, hsame4.mono (by decide) (by decide)⟩
  show Q_rmLEq_1_3 Z zC d1 d2 k1 k2 b0 c0 c1 c2 h0 n0 _ s₁.heap _
  exact ⟨(congrArg (fun z => some (Value.int z)) hn3), N0, e0⟩
theorem own_ef_rmSEq_1_3 (m : MethodId) (x0 : Addr) (x1 : Addr) : entryFrame m #[(.ref x0), (.ref x1)] 3 = mkF m 0 #[.val (.ref x0), .val (.ref x1), .unset] [] := by first | (simp [entryFrame, mkF, argsToLocals, Value.category]; done) | rfl
def Q_rmSEq_1_3 (Z : State) (zC : Int32) (x : Addr) (y : Addr) (d1 : Addr) (d2 : Addr) (k1 : ClassId) (k2 : ClassId) (b0 : Int32) (c0 : Int32) (c1 : Int32) (c2 : Int32) (h0 : Heap) (n0 : Nat) (vv_ : Option Value) (hh_ : Heap) (LL_ : List Loc) : Prop := vv_ = some (.int (0 : Int32)) ∧ Fr n0 LL_ ∧ hh_ = h0
set_option maxRecDepth 65536 in
set_option maxHeartbeats 40000000 in
theorem rmSEq_1_3 (l : Launch) (Z : State) (a0 : Array Value) (hw : ∀ d ∈ tables_1, d.before a0 Z = true) (ws : List Jvm.Cond) (zC : Int32) (GS : Glob Z zC) (x : Addr) (y : Addr) (d1 : Addr) (d2 : Addr) (k1 : ClassId) (k2 : ClassId) (b0 : Int32) (c0 : Int32) (c1 : Int32) (c2 : Int32) (h0 : Heap) (n0 : Nat) (Z0 : n0 ≤ h0.size) (O0 : Old Z n0 h0) (hxy : x ≠ y) (Ey : Exa Z h0 y "java/lang/String") (Fc1 : Fld Z h0 x "java/lang/String" "coder" "B" (.int (0 : Int32))) (Fc2 : Fld Z h0 y "java/lang/String" "coder" "B" (.int (0 : Int32))) (Fv1 : Fld Z h0 x "java/lang/String" "value" "[B" (.ref d1)) (Fv2 : Fld Z h0 y "java/lang/String" "value" "[B" (.ref d2)) (V1 : Arv Z h0 d1 k1 .byte (1 : Int32) [(.int b0)] (.int (0 : Int32))) (V2 : Arv Z h0 d2 k2 .byte (3 : Int32) [(.int c0), (.int c1), (.int c2)] (.int (0 : Int32))) :
    MetFree l (⟨"java/lang/String", "equals", "(Ljava/lang/Object;)Z"⟩ : MethodName) (head1 (Jvm.Cond.code (⟨"java/lang/String", "equals", "(Ljava/lang/Object;)Z"⟩ : MethodName) jdk_42_method_66_code 3 (some .boolean) :: ws) ({ frames := 1, cells := 0, slots := 0, locals := 14 } : Room)) (fun aa_ UU_ => aa_ = #[(.ref x), (.ref y)] ∧ Z.Warmed39 UU_.vm ∧ UU_.heap = h0) (fun _ _ _ _ _ => True) (fun _ UU_ oo_ UV_ => ∃ vv_ LL_, oo_ = .returned vv_ ∧ Q_rmSEq_1_3 Z zC x y d1 d2 k1 k2 b0 c0 c1 c2 h0 n0 vv_ UV_.heap LL_ ∧ FrameEnd UU_ oo_ UV_ LL_ ({ frames := 1, cells := 0, slots := 0, locals := 14 } : Room).cells ({ frames := 1, cells := 0, slots := 0, locals := 14 } : Room).slots) := by
  refine MetFree.of_bodySF (plainFor_of_name own_pn_java_lang_String) hisR ?_
  intro p e s m args below meth c s₁ Bd hml0 hP hK
  obtain ⟨rfl, hZ, hh⟩ := hP
  have hx := Bd.exec
  have hby := Bd.bytes
  have hml : c.maxLocals = 3 := hml0
  have hown : s.vm.findClass "java/lang/String" = some m.cls := findClass_of_methodNamed Bd.named
  have hnm := (name_of_methodNamed Bd.named Bd.method).1
  have X0 : Stand p l e ({ frames := 1, cells := 0, slots := 0, locals := 14 } : Room) s m #[(.ref x), (.ref y)] below meth c s₁ [] 0 0 := Stand.of_body Bd
  have e0 : s₁.heap = h0 := by rw [← hh, Bd.state]; rfl
  have N0 := Fr.nil n0
  have hn0 : Z.heap.size = n0 := O0.1
  have KT0 : Keep h0 h0 [] := Keep.refl _ _
  refine own_enter (Φ := fun oo_ UV_ => ∃ vv_ LL_, oo_ = .returned vv_ ∧ Q_rmSEq_1_3 Z zC x y d1 d2 k1 k2 b0 c0 c1 c2 h0 n0 vv_ UV_.heap LL_ ∧ FrameEnd s oo_ UV_ LL_ ({ frames := 1, cells := 0, slots := 0, locals := 14 } : Room).cells ({ frames := 1, cells := 0, slots := 0, locals := 14 } : Room).slots) (own_ef_rmSEq_1_3 m x y) ?_
  have ne1 : x ≠ y := hxy
  refine own_by (T' := s₁) (g' := (mkF m 1 #[.val (.ref x), .val (.ref y), .unset] [(.ref x)])) (fun _ kt_ => XS.aloadN X0.here hx rfl (hb hby own_d12_0) rfl rfl kt_) ?_
  refine own_by (T' := s₁) (g' := (mkF m 2 #[.val (.ref x), .val (.ref y), .unset] [(.ref y), (.ref x)])) (fun _ kt_ => XS.aloadN X0.here hx rfl (hb hby own_d12_1) rfl rfl kt_) ?_
  refine own_by (T' := s₁) (g' := (mkF m 7 #[.val (.ref x), .val (.ref y), .unset] [])) (fun _ kt_ => Jvm.RoadKit.acmp (g := (mkF m 2 #[.val (.ref x), .val (.ref y), .unset] [(.ref y), (.ref x)])) X0 hx rfl rfl rfl (pc0 := 2) (pc' := 7) (same := false) rfl (hb hby own_d12_2) rfl (decide_eq_false fun q => ne1 (Value.ref.inj q)) (by decide) (by decide) kt_) ?_
  refine own_by (T' := s₁) (g' := (mkF m 8 #[.val (.ref x), .val (.ref y), .unset] [(.ref y)])) (fun _ kt_ => XS.aloadN X0.here hx rfl (hb hby own_d12_7) rfl rfl kt_) ?_
  obtain ⟨T2, X2, e2, st2⟩ := instY X0 hx hZ hown (hw _ (List.mem_of_getElem? (i := 68) rfl)) e0 (Ins.self Ey) (g := (mkF m 8 #[.val (.ref x), .val (.ref y), .unset] [(.ref y)])) rfl rfl (hb hby own_d12_8)
  refine own_by (T' := T2) (g' := (mkF m 11 #[.val (.ref x), .val (.ref y), .unset] [(.int (1 : Int32))])) st2 ?_
  refine own_by (T' := T2) (g' := (mkF m 14 #[.val (.ref x), .val (.ref y), .unset] [])) (fun _ kt_ => XS.ifNo X2.here hx rfl (hb hby own_d12_11) rfl (XT.i0_eq_f (by decide)) kt_) ?_
  refine own_by (T' := T2) (g' := (mkF m 15 #[.val (.ref x), .val (.ref y), .unset] [(.ref y)])) (fun _ kt_ => XS.aloadN X2.here hx rfl (hb hby own_d12_14) rfl rfl kt_) ?_
  obtain ⟨T3, X3, e3, st3⟩ := castY X2 hx hZ hown (hw _ (List.mem_of_getElem? (i := 68) rfl)) e2 (Ins.self Ey) (g := (mkF m 15 #[.val (.ref x), .val (.ref y), .unset] [(.ref y)])) rfl rfl (hb hby own_d12_15)
  refine own_by (T' := T3) (g' := (mkF m 18 #[.val (.ref x), .val (.ref y), .unset] [(.ref y)])) st3 ?_
  refine own_by (T' := T3) (g' := (mkF m 19 #[.val (.ref x), .val (.ref y), .val (.ref y)] [])) (fun _ kt_ => XS.astoreN X3.here hx rfl (hb hby own_d12_18) rfl rfl (l' := #[.val (.ref x), .val (.ref y), .val (.ref y)]) rfl kt_) ?_
  have f4 := GS.1.ext O0.2
  obtain ⟨T5, X5, e5, st5⟩ := getS2 X3 hx hZ hown (host := "") (Or.inl (hw _ (List.mem_of_getElem? (i := 18) rfl))) Via.refl e3 f4 (g := (mkF m 19 #[.val (.ref x), .val (.ref y), .val (.ref y)] [])) rfl (hb hby own_d12_19)
  refine own_by (T' := T5) (g' := (mkF m 22 #[.val (.ref x), .val (.ref y), .val (.ref y)] [(.int zC)])) st5 ?_
  refine own_by (T' := T5) (g' := (mkF m 25 #[.val (.ref x), .val (.ref y), .val (.ref y)] [])) (fun _ kt_ => XS.ifNo X5.here hx rfl (hb hby own_d12_22) rfl (XT.i0_eq_f GS.2) kt_) ?_
  refine own_by (T' := T5) (g' := (mkF m 26 #[.val (.ref x), .val (.ref y), .val (.ref y)] [(.ref x)])) (fun _ kt_ => XS.aloadN X5.here hx rfl (hb hby own_d12_25) rfl rfl kt_) ?_
  obtain ⟨T6, X6, e6, st6⟩ := getF X5 hx hZ hown (host := "") (Or.inl (hw _ (List.mem_of_getElem? (i := 30) rfl))) Via.refl e5 Fc1 (g := (mkF m 26 #[.val (.ref x), .val (.ref y), .val (.ref y)] [(.ref x)])) rfl rfl (hb hby own_d12_26)
  refine own_by (T' := T6) (g' := (mkF m 29 #[.val (.ref x), .val (.ref y), .val (.ref y)] [(.int (0 : Int32))])) st6 ?_
  refine own_by (T' := T6) (g' := (mkF m 30 #[.val (.ref x), .val (.ref y), .val (.ref y)] [(.ref y), (.int (0 : Int32))])) (fun _ kt_ => XS.aloadN X6.here hx rfl (hb hby own_d12_29) rfl rfl kt_) ?_
  obtain ⟨T7, X7, e7, st7⟩ := getF X6 hx hZ hown (host := "") (Or.inl (hw _ (List.mem_of_getElem? (i := 30) rfl))) Via.refl e6 Fc2 (g := (mkF m 30 #[.val (.ref x), .val (.ref y), .val (.ref y)] [(.ref y), (.int (0 : Int32))])) rfl rfl (hb hby own_d12_30)
  refine own_by (T' := T7) (g' := (mkF m 33 #[.val (.ref x), .val (.ref y), .val (.ref y)] [(.int (0 : Int32)), (.int (0 : Int32))])) st7 ?_
  refine own_by (T' := T7) (g' := (mkF m 36 #[.val (.ref x), .val (.ref y), .val (.ref y)] [])) (fun _ kt_ => XS.icmpNo X7.here hx rfl (hb hby own_d12_33) rfl (XT.ii_ne_f (by decide)) kt_) ?_
  refine own_by (T' := T7) (g' := (mkF m 37 #[.val (.ref x), .val (.ref y), .val (.ref y)] [(.ref x)])) (fun _ kt_ => XS.aloadN X7.here hx rfl (hb hby own_d12_36) rfl rfl kt_) ?_
  obtain ⟨T8, X8, e8, st8⟩ := getF X7 hx hZ hown (host := "") (Or.inl (hw _ (List.mem_of_getElem? (i := 32) rfl))) Via.refl e7 Fv1 (g := (mkF m 37 #[.val (.ref x), .val (.ref y), .val (.ref y)] [(.ref x)])) rfl rfl (hb hby own_d12_37)
  refine own_by (T' := T8) (g' := (mkF m 40 #[.val (.ref x), .val (.ref y), .val (.ref y)] [(.ref d1)])) st8 ?_
  refine own_by (T' := T8) (g' := (mkF m 41 #[.val (.ref x), .val (.ref y), .val (.ref y)] [(.ref y), (.ref d1)])) (fun _ kt_ => XS.aloadN X8.here hx rfl (hb hby own_d12_40) rfl rfl kt_) ?_
  obtain ⟨T9, X9, e9, st9⟩ := getF X8 hx hZ hown (host := "") (Or.inl (hw _ (List.mem_of_getElem? (i := 32) rfl))) Via.refl e8 Fv2 (g := (mkF m 41 #[.val (.ref x), .val (.ref y), .val (.ref y)] [(.ref y), (.ref d1)])) rfl rfl (hb hby own_d12_41)
  refine own_by (T' := T9) (g' := (mkF m 44 #[.val (.ref x), .val (.ref y), .val (.ref y)] [(.ref d2), (.ref d1)])) st9 ?_
  obtain ⟨_, _, ⟨T10, L10, k10, n10⟩, -, X10, ⟨Lc10, hQ10, l10, y10, z10⟩, st10⟩ := Jvm.LawKit.callS X9 hx (y := (⟨"java/lang/StringLatin1", "equals", "([B[B)Z"⟩ : MethodName)) hown (mvT hZ (hw _ (List.mem_of_getElem? (i := 69) rfl))) (mvT hZ (hw _ (List.mem_of_getElem? (i := 70) rfl))) (mvT hZ (hw _ (List.mem_of_getElem? (i := 71) rfl))) (mvT hZ (hw _ (List.mem_of_getElem? (i := 72) rfl))) (by decide) (backOf (W := 0) (rmLEq_1_3 l Z a0 hw [] zC GS d1 d2 k1 k2 b0 c0 c1 c2 h0 n0 (by omega) O0 V1 V2) hZ (hw _ (List.mem_of_getElem? (i := 72) rfl)) (hw _ (List.mem_of_getElem? (i := 71) rfl)) (by decide) (by decide)) (g := (mkF m 44 #[.val (.ref x), .val (.ref y), .val (.ref y)] [(.ref d2), (.ref d1)])) rfl (by rw [hml]; rfl) (argsL := [(.ref d1), (.ref d2)]) (rest := []) (lenOf own_pd_4 rfl) rfl (by show 2 * 0 + _ ≤ _; exact Nat.le_of_eq rfl) (hb hby own_d12_44) (fun _ _ => ⟨rfl, e9, (by decide : 0 + 0 ≤ _), (by decide : 0 + 0 ≤ _)⟩)
  dsimp only [Pt.U, Pt.locs, Pt.cells, Pt.slots] at X10 l10 y10 z10 st10 hQ10
  subst l10 y10 z10
  obtain ⟨rfl, N10q, e10⟩ := hQ10
  have N11 := Fr.app N0 N10q
  refine own_by (T' := T10) (g' := (mkF m 47 #[.val (.ref x), .val (.ref y), .val (.ref y)] [(.int (0 : Int32))])) st10 ?_
  refine own_by (T' := T10) (g' := (mkF m 54 #[.val (.ref x), .val (.ref y), .val (.ref y)] [])) (fun _ kt_ => XS.ifYes X10.here hx rfl (pc0 := 47) (pc' := 54) rfl (hb hby own_d12_47) rfl (XT.i0_eq_t (by decide)) (by decide) (by decide) kt_) ?_
  refine own_by (T' := T10) (g' := (mkF m 55 #[.val (.ref x), .val (.ref y), .val (.ref y)] [(.int (0 : Int32))])) (fun _ kt_ => XS.iconst X10.here hx rfl (hb hby own_d12_54) kt_) ?_
  have hn12 : nar .boolean (0 : Int32) = (0 : Int32) := rfl
  obtain ⟨fs13, hr13, hrun13, hended13, hW13, hsame13⟩ := X10.leave (v := some (.int (nar .boolean (0 : Int32)))) (fun h => by rw [Bd.returns] at h; cases h)
  refine ⟨_, _, retN X10 hx (t := .boolean) Bd.returns (by simp) (hb hby own_d12_55) hr13, hrun13, hended13, _, _, rfl, ?_, ⟨_, rfl⟩, hW13, hsame13.mono (by decide) (by decide)⟩
  show Q_rmSEq_1_3 Z zC x y d1 d2 k1 k2 b0 c0 c1 c2 h0 n0 _ T10.heap _
  exact ⟨(congrArg (fun z => some (Value.int z)) hn12), N11, e10⟩
theorem own_ef_rmLEq_2_1 (m : MethodId) (x0 : Addr) (x1 : Addr) : entryFrame m #[(.ref x0), (.ref x1)] 3 = mkF m 0 #[.val (.ref x0), .val (.ref x1), .unset] [] := by first | (simp [entryFrame, mkF, argsToLocals, Value.category]; done) | rfl
def Q_rmLEq_2_1 (Z : State) (zC : Int32) (d1 : Addr) (d2 : Addr) (k1 : ClassId) (k2 : ClassId) (b0 : Int32) (b1 : Int32) (c0 : Int32) (h0 : Heap) (n0 : Nat) (vv_ : Option Value) (hh_ : Heap) (LL_ : List Loc) : Prop := vv_ = some (.int (0 : Int32)) ∧ Fr n0 LL_ ∧ hh_ = h0
set_option maxRecDepth 65536 in
set_option maxHeartbeats 40000000 in
theorem rmLEq_2_1 (l : Launch) (Z : State) (a0 : Array Value) (hw : ∀ d ∈ tables_1, d.before a0 Z = true) (ws : List Jvm.Cond) (zC : Int32) (GS : Glob Z zC) (d1 : Addr) (d2 : Addr) (k1 : ClassId) (k2 : ClassId) (b0 : Int32) (b1 : Int32) (c0 : Int32) (h0 : Heap) (n0 : Nat) (Z0 : n0 ≤ h0.size) (O0 : Old Z n0 h0) (V1 : Arv Z h0 d1 k1 .byte (2 : Int32) [(.int b0), (.int b1)] (.int (0 : Int32))) (V2 : Arv Z h0 d2 k2 .byte (1 : Int32) [(.int c0)] (.int (0 : Int32))) :
    MetFree l (⟨"java/lang/StringLatin1", "equals", "([B[B)Z"⟩ : MethodName) (head1 (Jvm.Cond.code (⟨"java/lang/StringLatin1", "equals", "([B[B)Z"⟩ : MethodName) jdk_43_method_13_code 3 (some .boolean) :: ws) ({ frames := 0, cells := 0, slots := 0, locals := 0 } : Room)) (fun aa_ UU_ => aa_ = #[(.ref d1), (.ref d2)] ∧ Z.Warmed39 UU_.vm ∧ UU_.heap = h0) (fun _ _ _ _ _ => True) (fun _ UU_ oo_ UV_ => ∃ vv_ LL_, oo_ = .returned vv_ ∧ Q_rmLEq_2_1 Z zC d1 d2 k1 k2 b0 b1 c0 h0 n0 vv_ UV_.heap LL_ ∧ FrameEnd UU_ oo_ UV_ LL_ ({ frames := 0, cells := 0, slots := 0, locals := 0 } : Room).cells ({ frames := 0, cells := 0, slots := 0, locals := 0 } : Room).slots) := by
  refine MetFree.of_bodySF (plainFor_of_name own_pn_java_lang_StringLatin1) hisR ?_
  intro p e s m args below meth c s₁ Bd hml0 hP hK
  obtain ⟨rfl, hZ, hh⟩ := hP
  have hx := Bd.exec
  have hby := Bd.bytes
  have hml : c.maxLocals = 3 := hml0
  have hown : s.vm.findClass "java/lang/StringLatin1" = some m.cls := findClass_of_methodNamed Bd.named
  have hnm := (name_of_methodNamed Bd.named Bd.method).1
  have X0 : Stand p l e ({ frames := 0, cells := 0, slots := 0, locals := 0 } : Room) s m #[(.ref d1), (.ref d2)] below meth c s₁ [] 0 0 := Stand.of_body Bd
  have e0 : s₁.heap = h0 := by rw [← hh, Bd.state]; rfl
  have N0 := Fr.nil n0
  have hn0 : Z.heap.size = n0 := O0.1
  have KT0 : Keep h0 h0 [] := Keep.refl _ _
  refine own_enter (Φ := fun oo_ UV_ => ∃ vv_ LL_, oo_ = .returned vv_ ∧ Q_rmLEq_2_1 Z zC d1 d2 k1 k2 b0 b1 c0 h0 n0 vv_ UV_.heap LL_ ∧ FrameEnd s oo_ UV_ LL_ ({ frames := 0, cells := 0, slots := 0, locals := 0 } : Room).cells ({ frames := 0, cells := 0, slots := 0, locals := 0 } : Room).slots) (own_ef_rmLEq_2_1 m d1 d2) ?_
  refine own_by (T' := s₁) (g' := (mkF m 1 #[.val (.ref d1), .val (.ref d2), .unset] [(.ref d1)])) (fun _ kt_ => XS.aloadN X0.here hx rfl (hb hby own_d13_0) rfl rfl kt_) ?_
  obtain ⟨cl1, Ar1, q1, S1, M1, H1, G1⟩ := id V1
  refine own_by (T' := s₁) (g' := (mkF m 2 #[.val (.ref d1), .val (.ref d2), .unset] [(.int (2 : Int32))])) (fun _ kt_ => X0.arraylength hx (by rw [e0]; exact Ar1.1) (State.isArrayOf_alike hZ.alike Ar1.2.1) (g := (mkF m 1 #[.val (.ref d1), .val (.ref d2), .unset] [(.ref d1)])) rfl rfl (hb hby own_d13_1) _ (by rw [len_of S1 M1]; exact kt_)) ?_
  refine own_by (T' := s₁) (g' := (mkF m 3 #[.val (.ref d1), .val (.ref d2), .unset] [(.ref d2), (.int (2 : Int32))])) (fun _ kt_ => XS.aloadN X0.here hx rfl (hb hby own_d13_2) rfl rfl kt_) ?_
  obtain ⟨cl2, Ar2, q2, S2, M2, H2, G2⟩ := id V2
  refine own_by (T' := s₁) (g' := (mkF m 4 #[.val (.ref d1), .val (.ref d2), .unset] [(.int (1 : Int32)), (.int (2 : Int32))])) (fun _ kt_ => X0.arraylength hx (by rw [e0]; exact Ar2.1) (State.isArrayOf_alike hZ.alike Ar2.2.1) (g := (mkF m 3 #[.val (.ref d1), .val (.ref d2), .unset] [(.ref d2), (.int (2 : Int32))])) rfl rfl (hb hby own_d13_3) _ (by rw [len_of S2 M2]; exact kt_)) ?_
  refine own_by (T' := s₁) (g' := (mkF m 34 #[.val (.ref d1), .val (.ref d2), .unset] [])) (fun _ kt_ => XS.icmpYes X0.here hx rfl (pc0 := 4) (pc' := 34) rfl (hb hby own_d13_4) rfl (XT.ii_ne_t (by decide)) (by decide) (by decide) kt_) ?_
  refine own_by (T' := s₁) (g' := (mkF m 35 #[.val (.ref d1), .val (.ref d2), .unset] [(.int (0 : Int32))])) (fun _ kt_ => XS.iconst X0.here hx rfl (hb hby own_d13_34) kt_) ?_
  have hn3 : nar .boolean (0 : Int32) = (0 : Int32) := rfl
  obtain ⟨fs4, hr4, hrun4, hended4, hW4, hsame4⟩ := X0.leave (v := some (.int (nar .boolean (0 : Int32)))) (fun h => by rw [Bd.returns] at h; cases h)
  refine ⟨_, _, retN X0 hx (t := .boolean) Bd.returns (by simp) (hb hby own_d13_35) hr4, hrun4, hended4, _, _, rfl, ?_, ⟨_, rfl⟩, hW4, hsame4.mono (by decide) (by decide)⟩
  show Q_rmLEq_2_1 Z zC d1 d2 k1 k2 b0 b1 c0 h0 n0 _ s₁.heap _
  exact ⟨(congrArg (fun z => some (Value.int z)) hn3), N0, e0⟩
theorem own_ef_rmSEq_2_1 (m : MethodId) (x0 : Addr) (x1 : Addr) : entryFrame m #[(.ref x0), (.ref x1)] 3 = mkF m 0 #[.val (.ref x0), .val (.ref x1), .unset] [] := by first | (simp [entryFrame, mkF, argsToLocals, Value.category]; done) | rfl
def Q_rmSEq_2_1 (Z : State) (zC : Int32) (x : Addr) (y : Addr) (d1 : Addr) (d2 : Addr) (k1 : ClassId) (k2 : ClassId) (b0 : Int32) (b1 : Int32) (c0 : Int32) (h0 : Heap) (n0 : Nat) (vv_ : Option Value) (hh_ : Heap) (LL_ : List Loc) : Prop := vv_ = some (.int (0 : Int32)) ∧ Fr n0 LL_ ∧ hh_ = h0
set_option maxRecDepth 65536 in
set_option maxHeartbeats 40000000 in
theorem rmSEq_2_1 (l : Launch) (Z : State) (a0 : Array Value) (hw : ∀ d ∈ tables_1, d.before a0 Z = true) (ws : List Jvm.Cond) (zC : Int32) (GS : Glob Z zC) (x : Addr) (y : Addr) (d1 : Addr) (d2 : Addr) (k1 : ClassId) (k2 : ClassId) (b0 : Int32) (b1 : Int32) (c0 : Int32) (h0 : Heap) (n0 : Nat) (Z0 : n0 ≤ h0.size) (O0 : Old Z n0 h0) (hxy : x ≠ y) (Ey : Exa Z h0 y "java/lang/String") (Fc1 : Fld Z h0 x "java/lang/String" "coder" "B" (.int (0 : Int32))) (Fc2 : Fld Z h0 y "java/lang/String" "coder" "B" (.int (0 : Int32))) (Fv1 : Fld Z h0 x "java/lang/String" "value" "[B" (.ref d1)) (Fv2 : Fld Z h0 y "java/lang/String" "value" "[B" (.ref d2)) (V1 : Arv Z h0 d1 k1 .byte (2 : Int32) [(.int b0), (.int b1)] (.int (0 : Int32))) (V2 : Arv Z h0 d2 k2 .byte (1 : Int32) [(.int c0)] (.int (0 : Int32))) :
    MetFree l (⟨"java/lang/String", "equals", "(Ljava/lang/Object;)Z"⟩ : MethodName) (head1 (Jvm.Cond.code (⟨"java/lang/String", "equals", "(Ljava/lang/Object;)Z"⟩ : MethodName) jdk_42_method_66_code 3 (some .boolean) :: ws) ({ frames := 1, cells := 0, slots := 0, locals := 14 } : Room)) (fun aa_ UU_ => aa_ = #[(.ref x), (.ref y)] ∧ Z.Warmed39 UU_.vm ∧ UU_.heap = h0) (fun _ _ _ _ _ => True) (fun _ UU_ oo_ UV_ => ∃ vv_ LL_, oo_ = .returned vv_ ∧ Q_rmSEq_2_1 Z zC x y d1 d2 k1 k2 b0 b1 c0 h0 n0 vv_ UV_.heap LL_ ∧ FrameEnd UU_ oo_ UV_ LL_ ({ frames := 1, cells := 0, slots := 0, locals := 14 } : Room).cells ({ frames := 1, cells := 0, slots := 0, locals := 14 } : Room).slots) := by
  refine MetFree.of_bodySF (plainFor_of_name own_pn_java_lang_String) hisR ?_
  intro p e s m args below meth c s₁ Bd hml0 hP hK
  obtain ⟨rfl, hZ, hh⟩ := hP
  have hx := Bd.exec
  have hby := Bd.bytes
  have hml : c.maxLocals = 3 := hml0
  have hown : s.vm.findClass "java/lang/String" = some m.cls := findClass_of_methodNamed Bd.named
  have hnm := (name_of_methodNamed Bd.named Bd.method).1
  have X0 : Stand p l e ({ frames := 1, cells := 0, slots := 0, locals := 14 } : Room) s m #[(.ref x), (.ref y)] below meth c s₁ [] 0 0 := Stand.of_body Bd
  have e0 : s₁.heap = h0 := by rw [← hh, Bd.state]; rfl
  have N0 := Fr.nil n0
  have hn0 : Z.heap.size = n0 := O0.1
  have KT0 : Keep h0 h0 [] := Keep.refl _ _
  refine own_enter (Φ := fun oo_ UV_ => ∃ vv_ LL_, oo_ = .returned vv_ ∧ Q_rmSEq_2_1 Z zC x y d1 d2 k1 k2 b0 b1 c0 h0 n0 vv_ UV_.heap LL_ ∧ FrameEnd s oo_ UV_ LL_ ({ frames := 1, cells := 0, slots := 0, locals := 14 } : Room).cells ({ frames := 1, cells := 0, slots := 0, locals := 14 } : Room).slots) (own_ef_rmSEq_2_1 m x y) ?_
  have ne1 : x ≠ y := hxy
  refine own_by (T' := s₁) (g' := (mkF m 1 #[.val (.ref x), .val (.ref y), .unset] [(.ref x)])) (fun _ kt_ => XS.aloadN X0.here hx rfl (hb hby own_d12_0) rfl rfl kt_) ?_
  refine own_by (T' := s₁) (g' := (mkF m 2 #[.val (.ref x), .val (.ref y), .unset] [(.ref y), (.ref x)])) (fun _ kt_ => XS.aloadN X0.here hx rfl (hb hby own_d12_1) rfl rfl kt_) ?_
  refine own_by (T' := s₁) (g' := (mkF m 7 #[.val (.ref x), .val (.ref y), .unset] [])) (fun _ kt_ => Jvm.RoadKit.acmp (g := (mkF m 2 #[.val (.ref x), .val (.ref y), .unset] [(.ref y), (.ref x)])) X0 hx rfl rfl rfl (pc0 := 2) (pc' := 7) (same := false) rfl (hb hby own_d12_2) rfl (decide_eq_false fun q => ne1 (Value.ref.inj q)) (by decide) (by decide) kt_) ?_
  refine own_by (T' := s₁) (g' := (mkF m 8 #[.val (.ref x), .val (.ref y), .unset] [(.ref y)])) (fun _ kt_ => XS.aloadN X0.here hx rfl (hb hby own_d12_7) rfl rfl kt_) ?_
  obtain ⟨T2, X2, e2, st2⟩ := instY X0 hx hZ hown (hw _ (List.mem_of_getElem? (i := 68) rfl)) e0 (Ins.self Ey) (g := (mkF m 8 #[.val (.ref x), .val (.ref y), .unset] [(.ref y)])) rfl rfl (hb hby own_d12_8)
  refine own_by (T' := T2) (g' := (mkF m 11 #[.val (.ref x), .val (.ref y), .unset] [(.int (1 : Int32))])) st2 ?_
  refine own_by (T' := T2) (g' := (mkF m 14 #[.val (.ref x), .val (.ref y), .unset] [])) (fun _ kt_ => XS.ifNo X2.here hx rfl (hb hby own_d12_11) rfl (XT.i0_eq_f (by decide)) kt_) ?_
  refine own_by (T' := T2) (g' := (mkF m 15 #[.val (.ref x), .val (.ref y), .unset] [(.ref y)])) (fun _ kt_ => XS.aloadN X2.here hx rfl (hb hby own_d12_14) rfl rfl kt_) ?_
  obtain ⟨T3, X3, e3, st3⟩ := castY X2 hx hZ hown (hw _ (List.mem_of_getElem? (i := 68) rfl)) e2 (Ins.self Ey) (g := (mkF m 15 #[.val (.ref x), .val (.ref y), .unset] [(.ref y)])) rfl rfl (hb hby own_d12_15)
  refine own_by (T' := T3) (g' := (mkF m 18 #[.val (.ref x), .val (.ref y), .unset] [(.ref y)])) st3 ?_
  refine own_by (T' := T3) (g' := (mkF m 19 #[.val (.ref x), .val (.ref y), .val (.ref y)] [])) (fun _ kt_ => XS.astoreN X3.here hx rfl (hb hby own_d12_18) rfl rfl (l' := #[.val (.ref x), .val (.ref y), .val (.ref y)]) rfl kt_) ?_
  have f4 := GS.1.ext O0.2
  obtain ⟨T5, X5, e5, st5⟩ := getS2 X3 hx hZ hown (host := "") (Or.inl (hw _ (List.mem_of_getElem? (i := 18) rfl))) Via.refl e3 f4 (g := (mkF m 19 #[.val (.ref x), .val (.ref y), .val (.ref y)] [])) rfl (hb hby own_d12_19)
  refine own_by (T' := T5) (g' := (mkF m 22 #[.val (.ref x), .val (.ref y), .val (.ref y)] [(.int zC)])) st5 ?_
  refine own_by (T' := T5) (g' := (mkF m 25 #[.val (.ref x), .val (.ref y), .val (.ref y)] [])) (fun _ kt_ => XS.ifNo X5.here hx rfl (hb hby own_d12_22) rfl (XT.i0_eq_f GS.2) kt_) ?_
  refine own_by (T' := T5) (g' := (mkF m 26 #[.val (.ref x), .val (.ref y), .val (.ref y)] [(.ref x)])) (fun _ kt_ => XS.aloadN X5.here hx rfl (hb hby own_d12_25) rfl rfl kt_) ?_
  obtain ⟨T6, X6, e6, st6⟩ := getF X5 hx hZ hown (host := "") (Or.inl (hw _ (List.mem_of_getElem? (i := 30) rfl))) Via.refl e5 Fc1 (g := (mkF m 26 #[.val (.ref x), .val (.ref y), .val (.ref y)] [(.ref x)])) rfl rfl (hb hby own_d12_26)
  refine own_by (T' := T6) (g' := (mkF m 29 #[.val (.ref x), .val (.ref y), .val (.ref y)] [(.int (0 : Int32))])) st6 ?_
  refine own_by (T' := T6) (g' := (mkF m 30 #[.val (.ref x), .val (.ref y), .val (.ref y)] [(.ref y), (.int (0 : Int32))])) (fun _ kt_ => XS.aloadN X6.here hx rfl (hb hby own_d12_29) rfl rfl kt_) ?_
  obtain ⟨T7, X7, e7, st7⟩ := getF X6 hx hZ hown (host := "") (Or.inl (hw _ (List.mem_of_getElem? (i := 30) rfl))) Via.refl e6 Fc2 (g := (mkF m 30 #[.val (.ref x), .val (.ref y), .val (.ref y)] [(.ref y), (.int (0 : Int32))])) rfl rfl (hb hby own_d12_30)
  refine own_by (T' := T7) (g' := (mkF m 33 #[.val (.ref x), .val (.ref y), .val (.ref y)] [(.int (0 : Int32)), (.int (0 : Int32))])) st7 ?_
  refine own_by (T' := T7) (g' := (mkF m 36 #[.val (.ref x), .val (.ref y), .val (.ref y)] [])) (fun _ kt_ => XS.icmpNo X7.here hx rfl (hb hby own_d12_33) rfl (XT.ii_ne_f (by decide)) kt_) ?_
  refine own_by (T' := T7) (g' := (mkF m 37 #[.val (.ref x), .val (.ref y), .val (.ref y)] [(.ref x)])) (fun _ kt_ => XS.aloadN X7.here hx rfl (hb hby own_d12_36) rfl rfl kt_) ?_
  obtain ⟨T8, X8, e8, st8⟩ := getF X7 hx hZ hown (host := "") (Or.inl (hw _ (List.mem_of_getElem? (i := 32) rfl))) Via.refl e7 Fv1 (g := (mkF m 37 #[.val (.ref x), .val (.ref y), .val (.ref y)] [(.ref x)])) rfl rfl (hb hby own_d12_37)
  refine own_by (T' := T8) (g' := (mkF m 40 #[.val (.ref x), .val (.ref y), .val (.ref y)] [(.ref d1)])) st8 ?_
  refine own_by (T' := T8) (g' := (mkF m 41 #[.val (.ref x), .val (.ref y), .val (.ref y)] [(.ref y), (.ref d1)])) (fun _ kt_ => XS.aloadN X8.here hx rfl (hb hby own_d12_40) rfl rfl kt_) ?_
  obtain ⟨T9, X9, e9, st9⟩ := getF X8 hx hZ hown (host := "") (Or.inl (hw _ (List.mem_of_getElem? (i := 32) rfl))) Via.refl e8 Fv2 (g := (mkF m 41 #[.val (.ref x), .val (.ref y), .val (.ref y)] [(.ref y), (.ref d1)])) rfl rfl (hb hby own_d12_41)
  refine own_by (T' := T9) (g' := (mkF m 44 #[.val (.ref x), .val (.ref y), .val (.ref y)] [(.ref d2), (.ref d1)])) st9 ?_
  obtain ⟨_, _, ⟨T10, L10, k10, n10⟩, -, X10, ⟨Lc10, hQ10, l10, y10, z10⟩, st10⟩ := Jvm.LawKit.callS X9 hx (y := (⟨"java/lang/StringLatin1", "equals", "([B[B)Z"⟩ : MethodName)) hown (mvT hZ (hw _ (List.mem_of_getElem? (i := 69) rfl))) (mvT hZ (hw _ (List.mem_of_getElem? (i := 70) rfl))) (mvT hZ (hw _ (List.mem_of_getElem? (i := 71) rfl))) (mvT hZ (hw _ (List.mem_of_getElem? (i := 72) rfl))) (by decide) (backOf (W := 0) (rmLEq_2_1 l Z a0 hw [] zC GS d1 d2 k1 k2 b0 b1 c0 h0 n0 (by omega) O0 V1 V2) hZ (hw _ (List.mem_of_getElem? (i := 72) rfl)) (hw _ (List.mem_of_getElem? (i := 71) rfl)) (by decide) (by decide)) (g := (mkF m 44 #[.val (.ref x), .val (.ref y), .val (.ref y)] [(.ref d2), (.ref d1)])) rfl (by rw [hml]; rfl) (argsL := [(.ref d1), (.ref d2)]) (rest := []) (lenOf own_pd_4 rfl) rfl (by show 2 * 0 + _ ≤ _; exact Nat.le_of_eq rfl) (hb hby own_d12_44) (fun _ _ => ⟨rfl, e9, (by decide : 0 + 0 ≤ _), (by decide : 0 + 0 ≤ _)⟩)
  dsimp only [Pt.U, Pt.locs, Pt.cells, Pt.slots] at X10 l10 y10 z10 st10 hQ10
  subst l10 y10 z10
  obtain ⟨rfl, N10q, e10⟩ := hQ10
  have N11 := Fr.app N0 N10q
  refine own_by (T' := T10) (g' := (mkF m 47 #[.val (.ref x), .val (.ref y), .val (.ref y)] [(.int (0 : Int32))])) st10 ?_
  refine own_by (T' := T10) (g' := (mkF m 54 #[.val (.ref x), .val (.ref y), .val (.ref y)] [])) (fun _ kt_ => XS.ifYes X10.here hx rfl (pc0 := 47) (pc' := 54) rfl (hb hby own_d12_47) rfl (XT.i0_eq_t (by decide)) (by decide) (by decide) kt_) ?_
  refine own_by (T' := T10) (g' := (mkF m 55 #[.val (.ref x), .val (.ref y), .val (.ref y)] [(.int (0 : Int32))])) (fun _ kt_ => XS.iconst X10.here hx rfl (hb hby own_d12_54) kt_) ?_
  have hn12 : nar .boolean (0 : Int32) = (0 : Int32) := rfl
  obtain ⟨fs13, hr13, hrun13, hended13, hW13, hsame13⟩ := X10.leave (v := some (.int (nar .boolean (0 : Int32)))) (fun h => by rw [Bd.returns] at h; cases h)
  refine ⟨_, _, retN X10 hx (t := .boolean) Bd.returns (by simp) (hb hby own_d12_55) hr13, hrun13, hended13, _, _, rfl, ?_, ⟨_, rfl⟩, hW13, hsame13.mono (by decide) (by decide)⟩
  show Q_rmSEq_2_1 Z zC x y d1 d2 k1 k2 b0 b1 c0 h0 n0 _ T10.heap _
  exact ⟨(congrArg (fun z => some (Value.int z)) hn12), N11, e10⟩
theorem own_ef_rmLEq_2_2 (m : MethodId) (x0 : Addr) (x1 : Addr) : entryFrame m #[(.ref x0), (.ref x1)] 3 = mkF m 0 #[.val (.ref x0), .val (.ref x1), .unset] [] := by first | (simp [entryFrame, mkF, argsToLocals, Value.category]; done) | rfl
def Q_rmLEq_2_2 (Z : State) (zC : Int32) (d1 : Addr) (d2 : Addr) (k1 : ClassId) (k2 : ClassId) (b0 : Int32) (b1 : Int32) (c0 : Int32) (c1 : Int32) (h0 : Heap) (n0 : Nat) (vv_ : Option Value) (hh_ : Heap) (LL_ : List Loc) : Prop := vv_ = some (.int (if b0 = c0 then (if b1 = c1 then (1 : Int32) else (0 : Int32)) else (0 : Int32))) ∧ Fr n0 LL_ ∧ hh_ = h0
set_option maxRecDepth 65536 in
set_option maxHeartbeats 40000000 in
theorem rmLEq_2_2 (l : Launch) (Z : State) (a0 : Array Value) (hw : ∀ d ∈ tables_1, d.before a0 Z = true) (ws : List Jvm.Cond) (zC : Int32) (GS : Glob Z zC) (d1 : Addr) (d2 : Addr) (k1 : ClassId) (k2 : ClassId) (b0 : Int32) (b1 : Int32) (c0 : Int32) (c1 : Int32) (h0 : Heap) (n0 : Nat) (Z0 : n0 ≤ h0.size) (O0 : Old Z n0 h0) (V1 : Arv Z h0 d1 k1 .byte (2 : Int32) [(.int b0), (.int b1)] (.int (0 : Int32))) (V2 : Arv Z h0 d2 k2 .byte (2 : Int32) [(.int c0), (.int c1)] (.int (0 : Int32))) :
    MetFree l (⟨"java/lang/StringLatin1", "equals", "([B[B)Z"⟩ : MethodName) (head1 (Jvm.Cond.code (⟨"java/lang/StringLatin1", "equals", "([B[B)Z"⟩ : MethodName) jdk_43_method_13_code 3 (some .boolean) :: ws) ({ frames := 0, cells := 0, slots := 0, locals := 0 } : Room)) (fun aa_ UU_ => aa_ = #[(.ref d1), (.ref d2)] ∧ Z.Warmed39 UU_.vm ∧ UU_.heap = h0) (fun _ _ _ _ _ => True) (fun _ UU_ oo_ UV_ => ∃ vv_ LL_, oo_ = .returned vv_ ∧ Q_rmLEq_2_2 Z zC d1 d2 k1 k2 b0 b1 c0 c1 h0 n0 vv_ UV_.heap LL_ ∧ FrameEnd UU_ oo_ UV_ LL_ ({ frames := 0, cells := 0, slots := 0, locals := 0 } : Room).cells ({ frames := 0, cells := 0, slots := 0, locals := 0 } : Room).slots) := by
  refine MetFree.of_bodySF (plainFor_of_name own_pn_java_lang_StringLatin1) hisR ?_
  intro p e s m args below meth c s₁ Bd hml0 hP hK
  obtain ⟨rfl, hZ, hh⟩ := hP
  have hx := Bd.exec
  have hby := Bd.bytes
  have hml : c.maxLocals = 3 := hml0
  have hown : s.vm.findClass "java/lang/StringLatin1" = some m.cls := findClass_of_methodNamed Bd.named
  have hnm := (name_of_methodNamed Bd.named Bd.method).1
  have X0 : Stand p l e ({ frames := 0, cells := 0, slots := 0, locals := 0 } : Room) s m #[(.ref d1), (.ref d2)] below meth c s₁ [] 0 0 := Stand.of_body Bd
  have e0 : s₁.heap = h0 := by rw [← hh, Bd.state]; rfl
  have N0 := Fr.nil n0
  have hn0 : Z.heap.size = n0 := O0.1
  have KT0 : Keep h0 h0 [] := Keep.refl _ _
  refine own_enter (Φ := fun oo_ UV_ => ∃ vv_ LL_, oo_ = .returned vv_ ∧ Q_rmLEq_2_2 Z zC d1 d2 k1 k2 b0 b1 c0 c1 h0 n0 vv_ UV_.heap LL_ ∧ FrameEnd s oo_ UV_ LL_ ({ frames := 0, cells := 0, slots := 0, locals := 0 } : Room).cells ({ frames := 0, cells := 0, slots := 0, locals := 0 } : Room).slots) (own_ef_rmLEq_2_2 m d1 d2) ?_
  refine own_by (T' := s₁) (g' := (mkF m 1 #[.val (.ref d1), .val (.ref d2), .unset] [(.ref d1)])) (fun _ kt_ => XS.aloadN X0.here hx rfl (hb hby own_d13_0) rfl rfl kt_) ?_
  obtain ⟨cl1, Ar1, q1, S1, M1, H1, G1⟩ := id V1
  refine own_by (T' := s₁) (g' := (mkF m 2 #[.val (.ref d1), .val (.ref d2), .unset] [(.int (2 : Int32))])) (fun _ kt_ => X0.arraylength hx (by rw [e0]; exact Ar1.1) (State.isArrayOf_alike hZ.alike Ar1.2.1) (g := (mkF m 1 #[.val (.ref d1), .val (.ref d2), .unset] [(.ref d1)])) rfl rfl (hb hby own_d13_1) _ (by rw [len_of S1 M1]; exact kt_)) ?_
  refine own_by (T' := s₁) (g' := (mkF m 3 #[.val (.ref d1), .val (.ref d2), .unset] [(.ref d2), (.int (2 : Int32))])) (fun _ kt_ => XS.aloadN X0.here hx rfl (hb hby own_d13_2) rfl rfl kt_) ?_
  obtain ⟨cl2, Ar2, q2, S2, M2, H2, G2⟩ := id V2
  refine own_by (T' := s₁) (g' := (mkF m 4 #[.val (.ref d1), .val (.ref d2), .unset] [(.int (2 : Int32)), (.int (2 : Int32))])) (fun _ kt_ => X0.arraylength hx (by rw [e0]; exact Ar2.1) (State.isArrayOf_alike hZ.alike Ar2.2.1) (g := (mkF m 3 #[.val (.ref d1), .val (.ref d2), .unset] [(.ref d2), (.int (2 : Int32))])) rfl rfl (hb hby own_d13_3) _ (by rw [len_of S2 M2]; exact kt_)) ?_
  refine own_by (T' := s₁) (g' := (mkF m 7 #[.val (.ref d1), .val (.ref d2), .unset] [])) (fun _ kt_ => XS.icmpNo X0.here hx rfl (hb hby own_d13_4) rfl (XT.ii_ne_f (by decide)) kt_) ?_
  refine own_by (T' := s₁) (g' := (mkF m 8 #[.val (.ref d1), .val (.ref d2), .unset] [(.int (0 : Int32))])) (fun _ kt_ => XS.iconst X0.here hx rfl (hb hby own_d13_7) kt_) ?_
  refine own_by (T' := s₁) (g' := (mkF m 9 #[.val (.ref d1), .val (.ref d2), .val (.int (0 : Int32))] [])) (fun _ kt_ => XS.istoreN X0.here hx rfl (hb hby own_d13_8) rfl (l' := #[.val (.ref d1), .val (.ref d2), .val (.int (0 : Int32))]) rfl kt_) ?_
  refine own_by (T' := s₁) (g' := (mkF m 10 #[.val (.ref d1), .val (.ref d2), .val (.int (0 : Int32))] [(.int (0 : Int32))])) (fun _ kt_ => XS.iloadN X0.here hx rfl (hb hby own_d13_9) rfl kt_) ?_
  refine own_by (T' := s₁) (g' := (mkF m 11 #[.val (.ref d1), .val (.ref d2), .val (.int (0 : Int32))] [(.ref d1), (.int (0 : Int32))])) (fun _ kt_ => XS.aloadN X0.here hx rfl (hb hby own_d13_10) rfl rfl kt_) ?_
  obtain ⟨cl3, Ar3, q3, S3, M3, H3, G3⟩ := id V1
  refine own_by (T' := s₁) (g' := (mkF m 12 #[.val (.ref d1), .val (.ref d2), .val (.int (0 : Int32))] [(.int (2 : Int32)), (.int (0 : Int32))])) (fun _ kt_ => X0.arraylength hx (by rw [e0]; exact Ar3.1) (State.isArrayOf_alike hZ.alike Ar3.2.1) (g := (mkF m 11 #[.val (.ref d1), .val (.ref d2), .val (.int (0 : Int32))] [(.ref d1), (.int (0 : Int32))])) rfl rfl (hb hby own_d13_11) _ (by rw [len_of S3 M3]; exact kt_)) ?_
  refine own_by (T' := s₁) (g' := (mkF m 15 #[.val (.ref d1), .val (.ref d2), .val (.int (0 : Int32))] [])) (fun _ kt_ => XS.icmpNo X0.here hx rfl (hb hby own_d13_12) rfl (XT.ii_ge_f (by decide)) kt_) ?_
  refine own_by (T' := s₁) (g' := (mkF m 16 #[.val (.ref d1), .val (.ref d2), .val (.int (0 : Int32))] [(.ref d1)])) (fun _ kt_ => XS.aloadN X0.here hx rfl (hb hby own_d13_15) rfl rfl kt_) ?_
  refine own_by (T' := s₁) (g' := (mkF m 17 #[.val (.ref d1), .val (.ref d2), .val (.int (0 : Int32))] [(.int (0 : Int32)), (.ref d1)])) (fun _ kt_ => XS.iloadN X0.here hx rfl (hb hby own_d13_16) rfl kt_) ?_
  obtain ⟨cl4, Ar4, q4, S4, M4, H4, G4⟩ := id V1
  have hin4 : ¬ ((0 : Int32) < 0 ∨ cl4.slots.size ≤ ((0 : Int32)).toNatClampNeg) := inb_of S4 ⟨by decide, by decide⟩
  have hat4 : cl4.slots[((0 : Int32)).toNatClampNeg]? = some (.int b0) := H4.at hin4 rfl
  refine own_by (T' := s₁) (g' := (mkF m 18 #[.val (.ref d1), .val (.ref d2), .val (.int (0 : Int32))] [(.int b0)])) (fun _ kt_ => X0.baloadBytes hx (j := (0 : Int32)) (v := (.int b0)) (by rw [e0]; exact Ar4.1) (State.isArrayOf_alike hZ.alike Ar4.2.1) Ar4.2.2 hin4 hat4 (g := (mkF m 17 #[.val (.ref d1), .val (.ref d2), .val (.int (0 : Int32))] [(.int (0 : Int32)), (.ref d1)])) rfl rfl (hb hby own_d13_17) _ kt_) ?_
  refine own_by (T' := s₁) (g' := (mkF m 19 #[.val (.ref d1), .val (.ref d2), .val (.int (0 : Int32))] [(.ref d2), (.int b0)])) (fun _ kt_ => XS.aloadN X0.here hx rfl (hb hby own_d13_18) rfl rfl kt_) ?_
  refine own_by (T' := s₁) (g' := (mkF m 20 #[.val (.ref d1), .val (.ref d2), .val (.int (0 : Int32))] [(.int (0 : Int32)), (.ref d2), (.int b0)])) (fun _ kt_ => XS.iloadN X0.here hx rfl (hb hby own_d13_19) rfl kt_) ?_
  obtain ⟨cl5, Ar5, q5, S5, M5, H5, G5⟩ := id V2
  have hin5 : ¬ ((0 : Int32) < 0 ∨ cl5.slots.size ≤ ((0 : Int32)).toNatClampNeg) := inb_of S5 ⟨by decide, by decide⟩
  have hat5 : cl5.slots[((0 : Int32)).toNatClampNeg]? = some (.int c0) := H5.at hin5 rfl
  refine own_by (T' := s₁) (g' := (mkF m 21 #[.val (.ref d1), .val (.ref d2), .val (.int (0 : Int32))] [(.int c0), (.int b0)])) (fun _ kt_ => X0.baloadBytes hx (j := (0 : Int32)) (v := (.int c0)) (by rw [e0]; exact Ar5.1) (State.isArrayOf_alike hZ.alike Ar5.2.1) Ar5.2.2 hin5 hat5 (g := (mkF m 20 #[.val (.ref d1), .val (.ref d2), .val (.int (0 : Int32))] [(.int (0 : Int32)), (.ref d2), (.int b0)])) rfl rfl (hb hby own_d13_20) _ kt_) ?_
  by_cases hc6 : b0 = c0
  · refine own_by (T' := s₁) (g' := (mkF m 26 #[.val (.ref d1), .val (.ref d2), .val (.int (0 : Int32))] [])) (fun _ kt_ => XS.icmpYes X0.here hx rfl (pc0 := 21) (pc' := 26) rfl (hb hby own_d13_21) rfl (XT.ii_eq_t hc6) (by decide) (by decide) kt_) ?_
    refine own_by (T' := s₁) (g' := (mkF m 29 #[.val (.ref d1), .val (.ref d2), .val (.int ((0 : Int32) + (1 : Int32)))] [])) (fun _ kt_ => XS.iinc X0.here hx rfl (hb hby own_d13_26) rfl (l' := #[.val (.ref d1), .val (.ref d2), .val (.int ((0 : Int32) + (1 : Int32)))]) rfl kt_) ?_
    rw [show ((0 : Int32) + (1 : Int32)) = (1 : Int32) from by decide]
    refine own_by (T' := s₁) (g' := (mkF m 9 #[.val (.ref d1), .val (.ref d2), .val (.int (1 : Int32))] [])) (fun _ kt_ => XS.goto X0.here hx rfl (pc0 := 29) (pc' := 9) rfl (hb hby own_d13_29) (by decide) (by decide) kt_) ?_
    refine own_by (T' := s₁) (g' := (mkF m 10 #[.val (.ref d1), .val (.ref d2), .val (.int (1 : Int32))] [(.int (1 : Int32))])) (fun _ kt_ => XS.iloadN X0.here hx rfl (hb hby own_d13_9) rfl kt_) ?_
    refine own_by (T' := s₁) (g' := (mkF m 11 #[.val (.ref d1), .val (.ref d2), .val (.int (1 : Int32))] [(.ref d1), (.int (1 : Int32))])) (fun _ kt_ => XS.aloadN X0.here hx rfl (hb hby own_d13_10) rfl rfl kt_) ?_
    obtain ⟨cl7, Ar7, q7, S7, M7, H7, G7⟩ := id V1
    refine own_by (T' := s₁) (g' := (mkF m 12 #[.val (.ref d1), .val (.ref d2), .val (.int (1 : Int32))] [(.int (2 : Int32)), (.int (1 : Int32))])) (fun _ kt_ => X0.arraylength hx (by rw [e0]; exact Ar7.1) (State.isArrayOf_alike hZ.alike Ar7.2.1) (g := (mkF m 11 #[.val (.ref d1), .val (.ref d2), .val (.int (1 : Int32))] [(.ref d1), (.int (1 : Int32))])) rfl rfl (hb hby own_d13_11) _ (by rw [len_of S7 M7]; exact kt_)) ?_
    refine own_by (T' := s₁) (g' := (mkF m 15 #[.val (.ref d1), .val (.ref d2), .val (.int (1 : Int32))] [])) (fun _ kt_ => XS.icmpNo X0.here hx rfl (hb hby own_d13_12) rfl (XT.ii_ge_f (by decide)) kt_) ?_
    refine own_by (T' := s₁) (g' := (mkF m 16 #[.val (.ref d1), .val (.ref d2), .val (.int (1 : Int32))] [(.ref d1)])) (fun _ kt_ => XS.aloadN X0.here hx rfl (hb hby own_d13_15) rfl rfl kt_) ?_
    refine own_by (T' := s₁) (g' := (mkF m 17 #[.val (.ref d1), .val (.ref d2), .val (.int (1 : Int32))] [(.int (1 : Int32)), (.ref d1)])) (fun _ kt_ => XS.iloadN X0.here hx rfl (hb hby own_d13_16) rfl kt_) ?_
    obtain ⟨cl8, Ar8, q8, S8, M8, H8, G8⟩ := id V1
    have hin8 : ¬ ((1 : Int32) < 0 ∨ cl8.slots.size ≤ ((1 : Int32)).toNatClampNeg) := inb_of S8 ⟨by decide, by decide⟩
    have hat8 : cl8.slots[((1 : Int32)).toNatClampNeg]? = some (.int b1) := H8.at hin8 rfl
    refine own_by (T' := s₁) (g' := (mkF m 18 #[.val (.ref d1), .val (.ref d2), .val (.int (1 : Int32))] [(.int b1)])) (fun _ kt_ => X0.baloadBytes hx (j := (1 : Int32)) (v := (.int b1)) (by rw [e0]; exact Ar8.1) (State.isArrayOf_alike hZ.alike Ar8.2.1) Ar8.2.2 hin8 hat8 (g := (mkF m 17 #[.val (.ref d1), .val (.ref d2), .val (.int (1 : Int32))] [(.int (1 : Int32)), (.ref d1)])) rfl rfl (hb hby own_d13_17) _ kt_) ?_
    refine own_by (T' := s₁) (g' := (mkF m 19 #[.val (.ref d1), .val (.ref d2), .val (.int (1 : Int32))] [(.ref d2), (.int b1)])) (fun _ kt_ => XS.aloadN X0.here hx rfl (hb hby own_d13_18) rfl rfl kt_) ?_
    refine own_by (T' := s₁) (g' := (mkF m 20 #[.val (.ref d1), .val (.ref d2), .val (.int (1 : Int32))] [(.int (1 : Int32)), (.ref d2), (.int b1)])) (fun _ kt_ => XS.iloadN X0.here hx rfl (hb hby own_d13_19) rfl kt_) ?_
    obtain ⟨cl9, Ar9, q9, S9, M9, H9, G9⟩ := id V2
    have hin9 : ¬ ((1 : Int32) < 0 ∨ cl9.slots.size ≤ ((1 : Int32)).toNatClampNeg) := inb_of S9 ⟨by decide, by decide⟩
    have hat9 : cl9.slots[((1 : Int32)).toNatClampNeg]? = some (.int c1) := H9.at hin9 rfl
    refine own_by (T' := s₁) (g' := (mkF m 21 #[.val (.ref d1), .val (.ref d2), .val (.int (1 : Int32))] [(.int c1), (.int b1)])) (fun _ kt_ => X0.baloadBytes hx (j := (1 : Int32)) (v := (.int c1)) (by rw [e0]; exact Ar9.1) (State.isArrayOf_alike hZ.alike Ar9.2.1) Ar9.2.2 hin9 hat9 (g := (mkF m 20 #[.val (.ref d1), .val (.ref d2), .val (.int (1 : Int32))] [(.int (1 : Int32)), (.ref d2), (.int b1)])) rfl rfl (hb hby own_d13_20) _ kt_) ?_
    by_cases hc10 : b1 = c1
    · refine own_by (T' := s₁) (g' := (mkF m 26 #[.val (.ref d1), .val (.ref d2), .val (.int (1 : Int32))] [])) (fun _ kt_ => XS.icmpYes X0.here hx rfl (pc0 := 21) (pc' := 26) rfl (hb hby own_d13_21) rfl (XT.ii_eq_t hc10) (by decide) (by decide) kt_) ?_
      refine own_by (T' := s₁) (g' := (mkF m 29 #[.val (.ref d1), .val (.ref d2), .val (.int ((1 : Int32) + (1 : Int32)))] [])) (fun _ kt_ => XS.iinc X0.here hx rfl (hb hby own_d13_26) rfl (l' := #[.val (.ref d1), .val (.ref d2), .val (.int ((1 : Int32) + (1 : Int32)))]) rfl kt_) ?_
      rw [show ((1 : Int32) + (1 : Int32)) = (2 : Int32) from by decide]
      refine own_by (T' := s₁) (g' := (mkF m 9 #[.val (.ref d1), .val (.ref d2), .val (.int (2 : Int32))] [])) (fun _ kt_ => XS.goto X0.here hx rfl (pc0 := 29) (pc' := 9) rfl (hb hby own_d13_29) (by decide) (by decide) kt_) ?_
      refine own_by (T' := s₁) (g' := (mkF m 10 #[.val (.ref d1), .val (.ref d2), .val (.int (2 : Int32))] [(.int (2 : Int32))])) (fun _ kt_ => XS.iloadN X0.here hx rfl (hb hby own_d13_9) rfl kt_) ?_
      refine own_by (T' := s₁) (g' := (mkF m 11 #[.val (.ref d1), .val (.ref d2), .val (.int (2 : Int32))] [(.ref d1), (.int (2 : Int32))])) (fun _ kt_ => XS.aloadN X0.here hx rfl (hb hby own_d13_10) rfl rfl kt_) ?_
      obtain ⟨cl11, Ar11, q11, S11, M11, H11, G11⟩ := id V1
      refine own_by (T' := s₁) (g' := (mkF m 12 #[.val (.ref d1), .val (.ref d2), .val (.int (2 : Int32))] [(.int (2 : Int32)), (.int (2 : Int32))])) (fun _ kt_ => X0.arraylength hx (by rw [e0]; exact Ar11.1) (State.isArrayOf_alike hZ.alike Ar11.2.1) (g := (mkF m 11 #[.val (.ref d1), .val (.ref d2), .val (.int (2 : Int32))] [(.ref d1), (.int (2 : Int32))])) rfl rfl (hb hby own_d13_11) _ (by rw [len_of S11 M11]; exact kt_)) ?_
      refine own_by (T' := s₁) (g' := (mkF m 32 #[.val (.ref d1), .val (.ref d2), .val (.int (2 : Int32))] [])) (fun _ kt_ => XS.icmpYes X0.here hx rfl (pc0 := 12) (pc' := 32) rfl (hb hby own_d13_12) rfl (XT.ii_ge_t (by decide)) (by decide) (by decide) kt_) ?_
      refine own_by (T' := s₁) (g' := (mkF m 33 #[.val (.ref d1), .val (.ref d2), .val (.int (2 : Int32))] [(.int (1 : Int32))])) (fun _ kt_ => XS.iconst X0.here hx rfl (hb hby own_d13_32) kt_) ?_
      have hn12 : nar .boolean (1 : Int32) = (1 : Int32) := rfl
      have hr13 : (1 : Int32) = (if b0 = c0 then (if b1 = c1 then (1 : Int32) else (0 : Int32)) else (0 : Int32)) := by simp [hc6, hc10]
      obtain ⟨fs14, hr14, hrun14, hended14, hW14, hsame14⟩ := X0.leave (v := some (.int (nar .boolean (1 : Int32)))) (fun h => by rw [Bd.returns] at h; cases h)
      refine ⟨_, _, retN X0 hx (t := .boolean) Bd.returns (by simp) (hb hby own_d13_33) hr14, hrun14, hended14, _, _, rfl, ?_, ⟨_, rfl⟩, hW14, hsame14.mono (by decide) (by decide)⟩
      show Q_rmLEq_2_2 Z zC d1 d2 k1 k2 b0 b1 c0 c1 h0 n0 _ s₁.heap _
      exact ⟨(congrArg (fun z => some (Value.int z)) (hn12.trans hr13)), N0, e0⟩
    · refine own_by (T' := s₁) (g' := (mkF m 24 #[.val (.ref d1), .val (.ref d2), .val (.int (1 : Int32))] [])) (fun _ kt_ => XS.icmpNo X0.here hx rfl (hb hby own_d13_21) rfl (XT.ii_eq_f hc10) kt_) ?_
      refine own_by (T' := s₁) (g' := (mkF m 25 #[.val (.ref d1), .val (.ref d2), .val (.int (1 : Int32))] [(.int (0 : Int32))])) (fun _ kt_ => XS.iconst X0.here hx rfl (hb hby own_d13_24) kt_) ?_
      have hn15 : nar .boolean (0 : Int32) = (0 : Int32) := rfl
      have hr16 : (0 : Int32) = (if b0 = c0 then (if b1 = c1 then (1 : Int32) else (0 : Int32)) else (0 : Int32)) := by simp [hc6, hc10]
      obtain ⟨fs17, hr17, hrun17, hended17, hW17, hsame17⟩ := X0.leave (v := some (.int (nar .boolean (0 : Int32)))) (fun h => by rw [Bd.returns] at h; cases h)
      refine ⟨_, _, retN X0 hx (t := .boolean) Bd.returns (by simp) (hb hby own_d13_25) hr17, hrun17, hended17, _, _, rfl, ?_, ⟨_, rfl⟩, hW17, hsame17.mono (by decide) (by decide)⟩
      show Q_rmLEq_2_2 Z zC d1 d2 k1 k2 b0 b1 c0 c1 h0 n0 _ s₁.heap _
      exact ⟨(congrArg (fun z => some (Value.int z)) (hn15.trans hr16)), N0, e0⟩
  · refine own_by (T' := s₁) (g' := (mkF m 24 #[.val (.ref d1), .val (.ref d2), .val (.int (0 : Int32))] [])) (fun _ kt_ => XS.icmpNo X0.here hx rfl (hb hby own_d13_21) rfl (XT.ii_eq_f hc6) kt_) ?_
    refine own_by (T' := s₁) (g' := (mkF m 25 #[.val (.ref d1), .val (.ref d2), .val (.int (0 : Int32))] [(.int (0 : Int32))])) (fun _ kt_ => XS.iconst X0.here hx rfl (hb hby own_d13_24) kt_) ?_
    have hn18 : nar .boolean (0 : Int32) = (0 : Int32) := rfl
    have hr19 : (0 : Int32) = (if b0 = c0 then (if b1 = c1 then (1 : Int32) else (0 : Int32)) else (0 : Int32)) := by simp [hc6]
    obtain ⟨fs20, hr20, hrun20, hended20, hW20, hsame20⟩ := X0.leave (v := some (.int (nar .boolean (0 : Int32)))) (fun h => by rw [Bd.returns] at h; cases h)
    refine ⟨_, _, retN X0 hx (t := .boolean) Bd.returns (by simp) (hb hby own_d13_25) hr20, hrun20, hended20, _, _, rfl, ?_, ⟨_, rfl⟩, hW20, hsame20.mono (by decide) (by decide)⟩
    show Q_rmLEq_2_2 Z zC d1 d2 k1 k2 b0 b1 c0 c1 h0 n0 _ s₁.heap _
    exact ⟨(congrArg (fun z => some (Value.int z)) (hn18.trans hr19)), N0, e0⟩
theorem own_ef_rmSEq_2_2 (m : MethodId) (x0 : Addr) (x1 : Addr) : entryFrame m #[(.ref x0), (.ref x1)] 3 = mkF m 0 #[.val (.ref x0), .val (.ref x1), .unset] [] := by first | (simp [entryFrame, mkF, argsToLocals, Value.category]; done) | rfl
def Q_rmSEq_2_2 (Z : State) (zC : Int32) (x : Addr) (y : Addr) (d1 : Addr) (d2 : Addr) (k1 : ClassId) (k2 : ClassId) (b0 : Int32) (b1 : Int32) (c0 : Int32) (c1 : Int32) (h0 : Heap) (n0 : Nat) (vv_ : Option Value) (hh_ : Heap) (LL_ : List Loc) : Prop := vv_ = some (.int (if b0 = c0 then (if b1 = c1 then (1 : Int32) else (0 : Int32)) else (0 : Int32))) ∧ Fr n0 LL_ ∧ hh_ = h0
set_option maxRecDepth 65536 in
set_option maxHeartbeats 40000000 in
theorem rmSEq_2_2 (l : Launch) (Z : State) (a0 : Array Value) (hw : ∀ d ∈ tables_1, d.before a0 Z = true) (ws : List Jvm.Cond) (zC : Int32) (GS : Glob Z zC) (x : Addr) (y : Addr) (d1 : Addr) (d2 : Addr) (k1 : ClassId) (k2 : ClassId) (b0 : Int32) (b1 : Int32) (c0 : Int32) (c1 : Int32) (h0 : Heap) (n0 : Nat) (Z0 : n0 ≤ h0.size) (O0 : Old Z n0 h0) (hxy : x ≠ y) (Ey : Exa Z h0 y "java/lang/String") (Fc1 : Fld Z h0 x "java/lang/String" "coder" "B" (.int (0 : Int32))) (Fc2 : Fld Z h0 y "java/lang/String" "coder" "B" (.int (0 : Int32))) (Fv1 : Fld Z h0 x "java/lang/String" "value" "[B" (.ref d1)) (Fv2 : Fld Z h0 y "java/lang/String" "value" "[B" (.ref d2)) (V1 : Arv Z h0 d1 k1 .byte (2 : Int32) [(.int b0), (.int b1)] (.int (0 : Int32))) (V2 : Arv Z h0 d2 k2 .byte (2 : Int32) [(.int c0), (.int c1)] (.int (0 : Int32))) :
    MetFree l (⟨"java/lang/String", "equals", "(Ljava/lang/Object;)Z"⟩ : MethodName) (head1 (Jvm.Cond.code (⟨"java/lang/String", "equals", "(Ljava/lang/Object;)Z"⟩ : MethodName) jdk_42_method_66_code 3 (some .boolean) :: ws) ({ frames := 1, cells := 0, slots := 0, locals := 14 } : Room)) (fun aa_ UU_ => aa_ = #[(.ref x), (.ref y)] ∧ Z.Warmed39 UU_.vm ∧ UU_.heap = h0) (fun _ _ _ _ _ => True) (fun _ UU_ oo_ UV_ => ∃ vv_ LL_, oo_ = .returned vv_ ∧ Q_rmSEq_2_2 Z zC x y d1 d2 k1 k2 b0 b1 c0 c1 h0 n0 vv_ UV_.heap LL_ ∧ FrameEnd UU_ oo_ UV_ LL_ ({ frames := 1, cells := 0, slots := 0, locals := 14 } : Room).cells ({ frames := 1, cells := 0, slots := 0, locals := 14 } : Room).slots) := by
  refine MetFree.of_bodySF (plainFor_of_name own_pn_java_lang_String) hisR ?_
  intro p e s m args below meth c s₁ Bd hml0 hP hK
  obtain ⟨rfl, hZ, hh⟩ := hP
  have hx := Bd.exec
  have hby := Bd.bytes
  have hml : c.maxLocals = 3 := hml0
  have hown : s.vm.findClass "java/lang/String" = some m.cls := findClass_of_methodNamed Bd.named
  have hnm := (name_of_methodNamed Bd.named Bd.method).1
  have X0 : Stand p l e ({ frames := 1, cells := 0, slots := 0, locals := 14 } : Room) s m #[(.ref x), (.ref y)] below meth c s₁ [] 0 0 := Stand.of_body Bd
  have e0 : s₁.heap = h0 := by rw [← hh, Bd.state]; rfl
  have N0 := Fr.nil n0
  have hn0 : Z.heap.size = n0 := O0.1
  have KT0 : Keep h0 h0 [] := Keep.refl _ _
  refine own_enter (Φ := fun oo_ UV_ => ∃ vv_ LL_, oo_ = .returned vv_ ∧ Q_rmSEq_2_2 Z zC x y d1 d2 k1 k2 b0 b1 c0 c1 h0 n0 vv_ UV_.heap LL_ ∧ FrameEnd s oo_ UV_ LL_ ({ frames := 1, cells := 0, slots := 0, locals := 14 } : Room).cells ({ frames := 1, cells := 0, slots := 0, locals := 14 } : Room).slots) (own_ef_rmSEq_2_2 m x y) ?_
  have ne1 : x ≠ y := hxy
  refine own_by (T' := s₁) (g' := (mkF m 1 #[.val (.ref x), .val (.ref y), .unset] [(.ref x)])) (fun _ kt_ => XS.aloadN X0.here hx rfl (hb hby own_d12_0) rfl rfl kt_) ?_
  refine own_by (T' := s₁) (g' := (mkF m 2 #[.val (.ref x), .val (.ref y), .unset] [(.ref y), (.ref x)])) (fun _ kt_ => XS.aloadN X0.here hx rfl (hb hby own_d12_1) rfl rfl kt_) ?_
  refine own_by (T' := s₁) (g' := (mkF m 7 #[.val (.ref x), .val (.ref y), .unset] [])) (fun _ kt_ => Jvm.RoadKit.acmp (g := (mkF m 2 #[.val (.ref x), .val (.ref y), .unset] [(.ref y), (.ref x)])) X0 hx rfl rfl rfl (pc0 := 2) (pc' := 7) (same := false) rfl (hb hby own_d12_2) rfl (decide_eq_false fun q => ne1 (Value.ref.inj q)) (by decide) (by decide) kt_) ?_
  refine own_by (T' := s₁) (g' := (mkF m 8 #[.val (.ref x), .val (.ref y), .unset] [(.ref y)])) (fun _ kt_ => XS.aloadN X0.here hx rfl (hb hby own_d12_7) rfl rfl kt_) ?_
  obtain ⟨T2, X2, e2, st2⟩ := instY X0 hx hZ hown (hw _ (List.mem_of_getElem? (i := 68) rfl)) e0 (Ins.self Ey) (g := (mkF m 8 #[.val (.ref x), .val (.ref y), .unset] [(.ref y)])) rfl rfl (hb hby own_d12_8)
  refine own_by (T' := T2) (g' := (mkF m 11 #[.val (.ref x), .val (.ref y), .unset] [(.int (1 : Int32))])) st2 ?_
  refine own_by (T' := T2) (g' := (mkF m 14 #[.val (.ref x), .val (.ref y), .unset] [])) (fun _ kt_ => XS.ifNo X2.here hx rfl (hb hby own_d12_11) rfl (XT.i0_eq_f (by decide)) kt_) ?_
  refine own_by (T' := T2) (g' := (mkF m 15 #[.val (.ref x), .val (.ref y), .unset] [(.ref y)])) (fun _ kt_ => XS.aloadN X2.here hx rfl (hb hby own_d12_14) rfl rfl kt_) ?_
  obtain ⟨T3, X3, e3, st3⟩ := castY X2 hx hZ hown (hw _ (List.mem_of_getElem? (i := 68) rfl)) e2 (Ins.self Ey) (g := (mkF m 15 #[.val (.ref x), .val (.ref y), .unset] [(.ref y)])) rfl rfl (hb hby own_d12_15)
  refine own_by (T' := T3) (g' := (mkF m 18 #[.val (.ref x), .val (.ref y), .unset] [(.ref y)])) st3 ?_
  refine own_by (T' := T3) (g' := (mkF m 19 #[.val (.ref x), .val (.ref y), .val (.ref y)] [])) (fun _ kt_ => XS.astoreN X3.here hx rfl (hb hby own_d12_18) rfl rfl (l' := #[.val (.ref x), .val (.ref y), .val (.ref y)]) rfl kt_) ?_
  have f4 := GS.1.ext O0.2
  obtain ⟨T5, X5, e5, st5⟩ := getS2 X3 hx hZ hown (host := "") (Or.inl (hw _ (List.mem_of_getElem? (i := 18) rfl))) Via.refl e3 f4 (g := (mkF m 19 #[.val (.ref x), .val (.ref y), .val (.ref y)] [])) rfl (hb hby own_d12_19)
  refine own_by (T' := T5) (g' := (mkF m 22 #[.val (.ref x), .val (.ref y), .val (.ref y)] [(.int zC)])) st5 ?_
  refine own_by (T' := T5) (g' := (mkF m 25 #[.val (.ref x), .val (.ref y), .val (.ref y)] [])) (fun _ kt_ => XS.ifNo X5.here hx rfl (hb hby own_d12_22) rfl (XT.i0_eq_f GS.2) kt_) ?_
  refine own_by (T' := T5) (g' := (mkF m 26 #[.val (.ref x), .val (.ref y), .val (.ref y)] [(.ref x)])) (fun _ kt_ => XS.aloadN X5.here hx rfl (hb hby own_d12_25) rfl rfl kt_) ?_
  obtain ⟨T6, X6, e6, st6⟩ := getF X5 hx hZ hown (host := "") (Or.inl (hw _ (List.mem_of_getElem? (i := 30) rfl))) Via.refl e5 Fc1 (g := (mkF m 26 #[.val (.ref x), .val (.ref y), .val (.ref y)] [(.ref x)])) rfl rfl (hb hby own_d12_26)
  refine own_by (T' := T6) (g' := (mkF m 29 #[.val (.ref x), .val (.ref y), .val (.ref y)] [(.int (0 : Int32))])) st6 ?_
  refine own_by (T' := T6) (g' := (mkF m 30 #[.val (.ref x), .val (.ref y), .val (.ref y)] [(.ref y), (.int (0 : Int32))])) (fun _ kt_ => XS.aloadN X6.here hx rfl (hb hby own_d12_29) rfl rfl kt_) ?_
  obtain ⟨T7, X7, e7, st7⟩ := getF X6 hx hZ hown (host := "") (Or.inl (hw _ (List.mem_of_getElem? (i := 30) rfl))) Via.refl e6 Fc2 (g := (mkF m 30 #[.val (.ref x), .val (.ref y), .val (.ref y)] [(.ref y), (.int (0 : Int32))])) rfl rfl (hb hby own_d12_30)
  refine own_by (T' := T7) (g' := (mkF m 33 #[.val (.ref x), .val (.ref y), .val (.ref y)] [(.int (0 : Int32)), (.int (0 : Int32))])) st7 ?_
  refine own_by (T' := T7) (g' := (mkF m 36 #[.val (.ref x), .val (.ref y), .val (.ref y)] [])) (fun _ kt_ => XS.icmpNo X7.here hx rfl (hb hby own_d12_33) rfl (XT.ii_ne_f (by decide)) kt_) ?_
  refine own_by (T' := T7) (g' := (mkF m 37 #[.val (.ref x), .val (.ref y), .val (.ref y)] [(.ref x)])) (fun _ kt_ => XS.aloadN X7.here hx rfl (hb hby own_d12_36) rfl rfl kt_) ?_
  obtain ⟨T8, X8, e8, st8⟩ := getF X7 hx hZ hown (host := "") (Or.inl (hw _ (List.mem_of_getElem? (i := 32) rfl))) Via.refl e7 Fv1 (g := (mkF m 37 #[.val (.ref x), .val (.ref y), .val (.ref y)] [(.ref x)])) rfl rfl (hb hby own_d12_37)
  refine own_by (T' := T8) (g' := (mkF m 40 #[.val (.ref x), .val (.ref y), .val (.ref y)] [(.ref d1)])) st8 ?_
  refine own_by (T' := T8) (g' := (mkF m 41 #[.val (.ref x), .val (.ref y), .val (.ref y)] [(.ref y), (.ref d1)])) (fun _ kt_ => XS.aloadN X8.here hx rfl (hb hby own_d12_40) rfl rfl kt_) ?_
  obtain ⟨T9, X9, e9, st9⟩ := getF X8 hx hZ hown (host := "") (Or.inl (hw _ (List.mem_of_getElem? (i := 32) rfl))) Via.refl e8 Fv2 (g := (mkF m 41 #[.val (.ref x), .val (.ref y), .val (.ref y)] [(.ref y), (.ref d1)])) rfl rfl (hb hby own_d12_41)
  refine own_by (T' := T9) (g' := (mkF m 44 #[.val (.ref x), .val (.ref y), .val (.ref y)] [(.ref d2), (.ref d1)])) st9 ?_
  obtain ⟨_, _, ⟨T10, L10, k10, n10⟩, -, X10, ⟨Lc10, hQ10, l10, y10, z10⟩, st10⟩ := Jvm.LawKit.callS X9 hx (y := (⟨"java/lang/StringLatin1", "equals", "([B[B)Z"⟩ : MethodName)) hown (mvT hZ (hw _ (List.mem_of_getElem? (i := 69) rfl))) (mvT hZ (hw _ (List.mem_of_getElem? (i := 70) rfl))) (mvT hZ (hw _ (List.mem_of_getElem? (i := 71) rfl))) (mvT hZ (hw _ (List.mem_of_getElem? (i := 72) rfl))) (by decide) (backOf (W := 0) (rmLEq_2_2 l Z a0 hw [] zC GS d1 d2 k1 k2 b0 b1 c0 c1 h0 n0 (by omega) O0 V1 V2) hZ (hw _ (List.mem_of_getElem? (i := 72) rfl)) (hw _ (List.mem_of_getElem? (i := 71) rfl)) (by decide) (by decide)) (g := (mkF m 44 #[.val (.ref x), .val (.ref y), .val (.ref y)] [(.ref d2), (.ref d1)])) rfl (by rw [hml]; rfl) (argsL := [(.ref d1), (.ref d2)]) (rest := []) (lenOf own_pd_4 rfl) rfl (by show 2 * 0 + _ ≤ _; exact Nat.le_of_eq rfl) (hb hby own_d12_44) (fun _ _ => ⟨rfl, e9, (by decide : 0 + 0 ≤ _), (by decide : 0 + 0 ≤ _)⟩)
  dsimp only [Pt.U, Pt.locs, Pt.cells, Pt.slots] at X10 l10 y10 z10 st10 hQ10
  subst l10 y10 z10
  obtain ⟨rfl, N10q, e10⟩ := hQ10
  have N11 := Fr.app N0 N10q
  refine own_by (T' := T10) (g' := (mkF m 47 #[.val (.ref x), .val (.ref y), .val (.ref y)] [(.int (if b0 = c0 then (if b1 = c1 then (1 : Int32) else (0 : Int32)) else (0 : Int32)))])) st10 ?_
  by_cases hc12 : (if b0 = c0 then (if b1 = c1 then (1 : Int32) else (0 : Int32)) else (0 : Int32)) = (0 : Int32)
  · refine own_by (T' := T10) (g' := (mkF m 54 #[.val (.ref x), .val (.ref y), .val (.ref y)] [])) (fun _ kt_ => XS.ifYes X10.here hx rfl (pc0 := 47) (pc' := 54) rfl (hb hby own_d12_47) rfl (XT.i0_eq_t hc12) (by decide) (by decide) kt_) ?_
    refine own_by (T' := T10) (g' := (mkF m 55 #[.val (.ref x), .val (.ref y), .val (.ref y)] [(.int (0 : Int32))])) (fun _ kt_ => XS.iconst X10.here hx rfl (hb hby own_d12_54) kt_) ?_
    have hn13 : nar .boolean (0 : Int32) = (0 : Int32) := rfl
    have hr14 : (0 : Int32) = (if b0 = c0 then (if b1 = c1 then (1 : Int32) else (0 : Int32)) else (0 : Int32)) := by first | rfl | (revert hc12; (repeat' split) <;> simp_all) | (revert hc12; simp)
    obtain ⟨fs15, hr15, hrun15, hended15, hW15, hsame15⟩ := X10.leave (v := some (.int (nar .boolean (0 : Int32)))) (fun h => by rw [Bd.returns] at h; cases h)
    refine ⟨_, _, retN X10 hx (t := .boolean) Bd.returns (by simp) (hb hby own_d12_55) hr15, hrun15, hended15, _, _, rfl, ?_, ⟨_, rfl⟩, hW15, hsame15.mono (by decide) (by decide)⟩
    show Q_rmSEq_2_2 Z zC x y d1 d2 k1 k2 b0 b1 c0 c1 h0 n0 _ T10.heap _
    exact ⟨(congrArg (fun z => some (Value.int z)) (hn13.trans hr14)), N11, e10⟩
  · refine own_by (T' := T10) (g' := (mkF m 50 #[.val (.ref x), .val (.ref y), .val (.ref y)] [])) (fun _ kt_ => XS.ifNo X10.here hx rfl (hb hby own_d12_47) rfl (XT.i0_eq_f hc12) kt_) ?_
    refine own_by (T' := T10) (g' := (mkF m 51 #[.val (.ref x), .val (.ref y), .val (.ref y)] [(.int (1 : Int32))])) (fun _ kt_ => XS.iconst X10.here hx rfl (hb hby own_d12_50) kt_) ?_
    refine own_by (T' := T10) (g' := (mkF m 55 #[.val (.ref x), .val (.ref y), .val (.ref y)] [(.int (1 : Int32))])) (fun _ kt_ => XS.goto X10.here hx rfl (pc0 := 51) (pc' := 55) rfl (hb hby own_d12_51) (by decide) (by decide) kt_) ?_
    have hn16 : nar .boolean (1 : Int32) = (1 : Int32) := rfl
    have hr17 : (1 : Int32) = (if b0 = c0 then (if b1 = c1 then (1 : Int32) else (0 : Int32)) else (0 : Int32)) := by first | rfl | (revert hc12; (repeat' split) <;> simp_all) | (revert hc12; simp)
    obtain ⟨fs18, hr18, hrun18, hended18, hW18, hsame18⟩ := X10.leave (v := some (.int (nar .boolean (1 : Int32)))) (fun h => by rw [Bd.returns] at h; cases h)
    refine ⟨_, _, retN X10 hx (t := .boolean) Bd.returns (by simp) (hb hby own_d12_55) hr18, hrun18, hended18, _, _, rfl, ?_, ⟨_, rfl⟩, hW18, hsame18.mono (by decide) (by decide)⟩
    show Q_rmSEq_2_2 Z zC x y d1 d2 k1 k2 b0 b1 c0 c1 h0 n0 _ T10.heap _
    exact ⟨(congrArg (fun z => some (Value.int z)) (hn16.trans hr17)), N11, e10⟩
theorem own_ef_rmLEq_2_3 (m : MethodId) (x0 : Addr) (x1 : Addr) : entryFrame m #[(.ref x0), (.ref x1)] 3 = mkF m 0 #[.val (.ref x0), .val (.ref x1), .unset] [] := by first | (simp [entryFrame, mkF, argsToLocals, Value.category]; done) | rfl
def Q_rmLEq_2_3 (Z : State) (zC : Int32) (d1 : Addr) (d2 : Addr) (k1 : ClassId) (k2 : ClassId) (b0 : Int32) (b1 : Int32) (c0 : Int32) (c1 : Int32) (c2 : Int32) (h0 : Heap) (n0 : Nat) (vv_ : Option Value) (hh_ : Heap) (LL_ : List Loc) : Prop := vv_ = some (.int (0 : Int32)) ∧ Fr n0 LL_ ∧ hh_ = h0
set_option maxRecDepth 65536 in
set_option maxHeartbeats 40000000 in
theorem rmLEq_2_3 (l : Launch) (Z : State) (a0 : Array Value) (hw : ∀ d ∈ tables_1, d.before a0 Z = true) (ws : List Jvm.Cond) (zC : Int32) (GS : Glob Z zC) (d1 : Addr) (d2 : Addr) (k1 : ClassId) (k2 : ClassId) (b0 : Int32) (b1 : Int32) (c0 : Int32) (c1 : Int32) (c2 : Int32) (h0 : Heap) (n0 : Nat) (Z0 : n0 ≤ h0.size) (O0 : Old Z n0 h0) (V1 : Arv Z h0 d1 k1 .byte (2 : Int32) [(.int b0), (.int b1)] (.int (0 : Int32))) (V2 : Arv Z h0 d2 k2 .byte (3 : Int32) [(.int c0), (.int c1), (.int c2)] (.int (0 : Int32))) :
    MetFree l (⟨"java/lang/StringLatin1", "equals", "([B[B)Z"⟩ : MethodName) (head1 (Jvm.Cond.code (⟨"java/lang/StringLatin1", "equals", "([B[B)Z"⟩ : MethodName) jdk_43_method_13_code 3 (some .boolean) :: ws) ({ frames := 0, cells := 0, slots := 0, locals := 0 } : Room)) (fun aa_ UU_ => aa_ = #[(.ref d1), (.ref d2)] ∧ Z.Warmed39 UU_.vm ∧ UU_.heap = h0) (fun _ _ _ _ _ => True) (fun _ UU_ oo_ UV_ => ∃ vv_ LL_, oo_ = .returned vv_ ∧ Q_rmLEq_2_3 Z zC d1 d2 k1 k2 b0 b1 c0 c1 c2 h0 n0 vv_ UV_.heap LL_ ∧ FrameEnd UU_ oo_ UV_ LL_ ({ frames := 0, cells := 0, slots := 0, locals := 0 } : Room).cells ({ frames := 0, cells := 0, slots := 0, locals := 0 } : Room).slots) := by
  refine MetFree.of_bodySF (plainFor_of_name own_pn_java_lang_StringLatin1) hisR ?_
  intro p e s m args below meth c s₁ Bd hml0 hP hK
  obtain ⟨rfl, hZ, hh⟩ := hP
  have hx := Bd.exec
  have hby := Bd.bytes
  have hml : c.maxLocals = 3 := hml0
  have hown : s.vm.findClass "java/lang/StringLatin1" = some m.cls := findClass_of_methodNamed Bd.named
  have hnm := (name_of_methodNamed Bd.named Bd.method).1
  have X0 : Stand p l e ({ frames := 0, cells := 0, slots := 0, locals := 0 } : Room) s m #[(.ref d1), (.ref d2)] below meth c s₁ [] 0 0 := Stand.of_body Bd
  have e0 : s₁.heap = h0 := by rw [← hh, Bd.state]; rfl
  have N0 := Fr.nil n0
  have hn0 : Z.heap.size = n0 := O0.1
  have KT0 : Keep h0 h0 [] := Keep.refl _ _
  refine own_enter (Φ := fun oo_ UV_ => ∃ vv_ LL_, oo_ = .returned vv_ ∧ Q_rmLEq_2_3 Z zC d1 d2 k1 k2 b0 b1 c0 c1 c2 h0 n0 vv_ UV_.heap LL_ ∧ FrameEnd s oo_ UV_ LL_ ({ frames := 0, cells := 0, slots := 0, locals := 0 } : Room).cells ({ frames := 0, cells := 0, slots := 0, locals := 0 } : Room).slots) (own_ef_rmLEq_2_3 m d1 d2) ?_
  refine own_by (T' := s₁) (g' := (mkF m 1 #[.val (.ref d1), .val (.ref d2), .unset] [(.ref d1)])) (fun _ kt_ => XS.aloadN X0.here hx rfl (hb hby own_d13_0) rfl rfl kt_) ?_
  obtain ⟨cl1, Ar1, q1, S1, M1, H1, G1⟩ := id V1
  refine own_by (T' := s₁) (g' := (mkF m 2 #[.val (.ref d1), .val (.ref d2), .unset] [(.int (2 : Int32))])) (fun _ kt_ => X0.arraylength hx (by rw [e0]; exact Ar1.1) (State.isArrayOf_alike hZ.alike Ar1.2.1) (g := (mkF m 1 #[.val (.ref d1), .val (.ref d2), .unset] [(.ref d1)])) rfl rfl (hb hby own_d13_1) _ (by rw [len_of S1 M1]; exact kt_)) ?_
  refine own_by (T' := s₁) (g' := (mkF m 3 #[.val (.ref d1), .val (.ref d2), .unset] [(.ref d2), (.int (2 : Int32))])) (fun _ kt_ => XS.aloadN X0.here hx rfl (hb hby own_d13_2) rfl rfl kt_) ?_
  obtain ⟨cl2, Ar2, q2, S2, M2, H2, G2⟩ := id V2
  refine own_by (T' := s₁) (g' := (mkF m 4 #[.val (.ref d1), .val (.ref d2), .unset] [(.int (3 : Int32)), (.int (2 : Int32))])) (fun _ kt_ => X0.arraylength hx (by rw [e0]; exact Ar2.1) (State.isArrayOf_alike hZ.alike Ar2.2.1) (g := (mkF m 3 #[.val (.ref d1), .val (.ref d2), .unset] [(.ref d2), (.int (2 : Int32))])) rfl rfl (hb hby own_d13_3) _ (by rw [len_of S2 M2]; exact kt_)) ?_
  refine own_by (T' := s₁) (g' := (mkF m 34 #[.val (.ref d1), .val (.ref d2), .unset] [])) (fun _ kt_ => XS.icmpYes X0.here hx rfl (pc0 := 4) (pc' := 34) rfl (hb hby own_d13_4) rfl (XT.ii_ne_t (by decide)) (by decide) (by decide) kt_) ?_
  refine own_by (T' := s₁) (g' := (mkF m 35 #[.val (.ref d1), .val (.ref d2), .unset] [(.int (0 : Int32))])) (fun _ kt_ => XS.iconst X0.here hx rfl (hb hby own_d13_34) kt_) ?_
  have hn3 : nar .boolean (0 : Int32) = (0 : Int32) := rfl
  obtain ⟨fs4, hr4, hrun4, hended4, hW4, hsame4⟩ := X0.leave (v := some (.int (nar .boolean (0 : Int32)))) (fun h => by rw [Bd.returns] at h; cases h)
  refine ⟨_, _, retN X0 hx (t := .boolean) Bd.returns (by simp) (hb hby own_d13_35) hr4, hrun4, hended4, _, _, rfl, ?_, ⟨_, rfl⟩, hW4, hsame4.mono (by decide) (by decide)⟩
  show Q_rmLEq_2_3 Z zC d1 d2 k1 k2 b0 b1 c0 c1 c2 h0 n0 _ s₁.heap _
  exact ⟨(congrArg (fun z => some (Value.int z)) hn3), N0, e0⟩
theorem own_ef_rmSEq_2_3 (m : MethodId) (x0 : Addr) (x1 : Addr) : entryFrame m #[(.ref x0), (.ref x1)] 3 = mkF m 0 #[.val (.ref x0), .val (.ref x1), .unset] [] := by first | (simp [entryFrame, mkF, argsToLocals, Value.category]; done) | rfl
def Q_rmSEq_2_3 (Z : State) (zC : Int32) (x : Addr) (y : Addr) (d1 : Addr) (d2 : Addr) (k1 : ClassId) (k2 : ClassId) (b0 : Int32) (b1 : Int32) (c0 : Int32) (c1 : Int32) (c2 : Int32) (h0 : Heap) (n0 : Nat) (vv_ : Option Value) (hh_ : Heap) (LL_ : List Loc) : Prop := vv_ = some (.int (0 : Int32)) ∧ Fr n0 LL_ ∧ hh_ = h0
set_option maxRecDepth 65536 in
set_option maxHeartbeats 40000000 in
theorem rmSEq_2_3 (l : Launch) (Z : State) (a0 : Array Value) (hw : ∀ d ∈ tables_1, d.before a0 Z = true) (ws : List Jvm.Cond) (zC : Int32) (GS : Glob Z zC) (x : Addr) (y : Addr) (d1 : Addr) (d2 : Addr) (k1 : ClassId) (k2 : ClassId) (b0 : Int32) (b1 : Int32) (c0 : Int32) (c1 : Int32) (c2 : Int32) (h0 : Heap) (n0 : Nat) (Z0 : n0 ≤ h0.size) (O0 : Old Z n0 h0) (hxy : x ≠ y) (Ey : Exa Z h0 y "java/lang/String") (Fc1 : Fld Z h0 x "java/lang/String" "coder" "B" (.int (0 : Int32))) (Fc2 : Fld Z h0 y "java/lang/String" "coder" "B" (.int (0 : Int32))) (Fv1 : Fld Z h0 x "java/lang/String" "value" "[B" (.ref d1)) (Fv2 : Fld Z h0 y "java/lang/String" "value" "[B" (.ref d2)) (V1 : Arv Z h0 d1 k1 .byte (2 : Int32) [(.int b0), (.int b1)] (.int (0 : Int32))) (V2 : Arv Z h0 d2 k2 .byte (3 : Int32) [(.int c0), (.int c1), (.int c2)] (.int (0 : Int32))) :
    MetFree l (⟨"java/lang/String", "equals", "(Ljava/lang/Object;)Z"⟩ : MethodName) (head1 (Jvm.Cond.code (⟨"java/lang/String", "equals", "(Ljava/lang/Object;)Z"⟩ : MethodName) jdk_42_method_66_code 3 (some .boolean) :: ws) ({ frames := 1, cells := 0, slots := 0, locals := 14 } : Room)) (fun aa_ UU_ => aa_ = #[(.ref x), (.ref y)] ∧ Z.Warmed39 UU_.vm ∧ UU_.heap = h0) (fun _ _ _ _ _ => True) (fun _ UU_ oo_ UV_ => ∃ vv_ LL_, oo_ = .returned vv_ ∧ Q_rmSEq_2_3 Z zC x y d1 d2 k1 k2 b0 b1 c0 c1 c2 h0 n0 vv_ UV_.heap LL_ ∧ FrameEnd UU_ oo_ UV_ LL_ ({ frames := 1, cells := 0, slots := 0, locals := 14 } : Room).cells ({ frames := 1, cells := 0, slots := 0, locals := 14 } : Room).slots) := by
  refine MetFree.of_bodySF (plainFor_of_name own_pn_java_lang_String) hisR ?_
  intro p e s m args below meth c s₁ Bd hml0 hP hK
  obtain ⟨rfl, hZ, hh⟩ := hP
  have hx := Bd.exec
  have hby := Bd.bytes
  have hml : c.maxLocals = 3 := hml0
  have hown : s.vm.findClass "java/lang/String" = some m.cls := findClass_of_methodNamed Bd.named
  have hnm := (name_of_methodNamed Bd.named Bd.method).1
  have X0 : Stand p l e ({ frames := 1, cells := 0, slots := 0, locals := 14 } : Room) s m #[(.ref x), (.ref y)] below meth c s₁ [] 0 0 := Stand.of_body Bd
  have e0 : s₁.heap = h0 := by rw [← hh, Bd.state]; rfl
  have N0 := Fr.nil n0
  have hn0 : Z.heap.size = n0 := O0.1
  have KT0 : Keep h0 h0 [] := Keep.refl _ _
  refine own_enter (Φ := fun oo_ UV_ => ∃ vv_ LL_, oo_ = .returned vv_ ∧ Q_rmSEq_2_3 Z zC x y d1 d2 k1 k2 b0 b1 c0 c1 c2 h0 n0 vv_ UV_.heap LL_ ∧ FrameEnd s oo_ UV_ LL_ ({ frames := 1, cells := 0, slots := 0, locals := 14 } : Room).cells ({ frames := 1, cells := 0, slots := 0, locals := 14 } : Room).slots) (own_ef_rmSEq_2_3 m x y) ?_
  have ne1 : x ≠ y := hxy
  refine own_by (T' := s₁) (g' := (mkF m 1 #[.val (.ref x), .val (.ref y), .unset] [(.ref x)])) (fun _ kt_ => XS.aloadN X0.here hx rfl (hb hby own_d12_0) rfl rfl kt_) ?_
  refine own_by (T' := s₁) (g' := (mkF m 2 #[.val (.ref x), .val (.ref y), .unset] [(.ref y), (.ref x)])) (fun _ kt_ => XS.aloadN X0.here hx rfl (hb hby own_d12_1) rfl rfl kt_) ?_
  refine own_by (T' := s₁) (g' := (mkF m 7 #[.val (.ref x), .val (.ref y), .unset] [])) (fun _ kt_ => Jvm.RoadKit.acmp (g := (mkF m 2 #[.val (.ref x), .val (.ref y), .unset] [(.ref y), (.ref x)])) X0 hx rfl rfl rfl (pc0 := 2) (pc' := 7) (same := false) rfl (hb hby own_d12_2) rfl (decide_eq_false fun q => ne1 (Value.ref.inj q)) (by decide) (by decide) kt_) ?_
  refine own_by (T' := s₁) (g' := (mkF m 8 #[.val (.ref x), .val (.ref y), .unset] [(.ref y)])) (fun _ kt_ => XS.aloadN X0.here hx rfl (hb hby own_d12_7) rfl rfl kt_) ?_
  obtain ⟨T2, X2, e2, st2⟩ := instY X0 hx hZ hown (hw _ (List.mem_of_getElem? (i := 68) rfl)) e0 (Ins.self Ey) (g := (mkF m 8 #[.val (.ref x), .val (.ref y), .unset] [(.ref y)])) rfl rfl (hb hby own_d12_8)
  refine own_by (T' := T2) (g' := (mkF m 11 #[.val (.ref x), .val (.ref y), .unset] [(.int (1 : Int32))])) st2 ?_
  refine own_by (T' := T2) (g' := (mkF m 14 #[.val (.ref x), .val (.ref y), .unset] [])) (fun _ kt_ => XS.ifNo X2.here hx rfl (hb hby own_d12_11) rfl (XT.i0_eq_f (by decide)) kt_) ?_
  refine own_by (T' := T2) (g' := (mkF m 15 #[.val (.ref x), .val (.ref y), .unset] [(.ref y)])) (fun _ kt_ => XS.aloadN X2.here hx rfl (hb hby own_d12_14) rfl rfl kt_) ?_
  obtain ⟨T3, X3, e3, st3⟩ := castY X2 hx hZ hown (hw _ (List.mem_of_getElem? (i := 68) rfl)) e2 (Ins.self Ey) (g := (mkF m 15 #[.val (.ref x), .val (.ref y), .unset] [(.ref y)])) rfl rfl (hb hby own_d12_15)
  refine own_by (T' := T3) (g' := (mkF m 18 #[.val (.ref x), .val (.ref y), .unset] [(.ref y)])) st3 ?_
  refine own_by (T' := T3) (g' := (mkF m 19 #[.val (.ref x), .val (.ref y), .val (.ref y)] [])) (fun _ kt_ => XS.astoreN X3.here hx rfl (hb hby own_d12_18) rfl rfl (l' := #[.val (.ref x), .val (.ref y), .val (.ref y)]) rfl kt_) ?_
  have f4 := GS.1.ext O0.2
  obtain ⟨T5, X5, e5, st5⟩ := getS2 X3 hx hZ hown (host := "") (Or.inl (hw _ (List.mem_of_getElem? (i := 18) rfl))) Via.refl e3 f4 (g := (mkF m 19 #[.val (.ref x), .val (.ref y), .val (.ref y)] [])) rfl (hb hby own_d12_19)
  refine own_by (T' := T5) (g' := (mkF m 22 #[.val (.ref x), .val (.ref y), .val (.ref y)] [(.int zC)])) st5 ?_
  refine own_by (T' := T5) (g' := (mkF m 25 #[.val (.ref x), .val (.ref y), .val (.ref y)] [])) (fun _ kt_ => XS.ifNo X5.here hx rfl (hb hby own_d12_22) rfl (XT.i0_eq_f GS.2) kt_) ?_
  refine own_by (T' := T5) (g' := (mkF m 26 #[.val (.ref x), .val (.ref y), .val (.ref y)] [(.ref x)])) (fun _ kt_ => XS.aloadN X5.here hx rfl (hb hby own_d12_25) rfl rfl kt_) ?_
  obtain ⟨T6, X6, e6, st6⟩ := getF X5 hx hZ hown (host := "") (Or.inl (hw _ (List.mem_of_getElem? (i := 30) rfl))) Via.refl e5 Fc1 (g := (mkF m 26 #[.val (.ref x), .val (.ref y), .val (.ref y)] [(.ref x)])) rfl rfl (hb hby own_d12_26)
  refine own_by (T' := T6) (g' := (mkF m 29 #[.val (.ref x), .val (.ref y), .val (.ref y)] [(.int (0 : Int32))])) st6 ?_
  refine own_by (T' := T6) (g' := (mkF m 30 #[.val (.ref x), .val (.ref y), .val (.ref y)] [(.ref y), (.int (0 : Int32))])) (fun _ kt_ => XS.aloadN X6.here hx rfl (hb hby own_d12_29) rfl rfl kt_) ?_
  obtain ⟨T7, X7, e7, st7⟩ := getF X6 hx hZ hown (host := "") (Or.inl (hw _ (List.mem_of_getElem? (i := 30) rfl))) Via.refl e6 Fc2 (g := (mkF m 30 #[.val (.ref x), .val (.ref y), .val (.ref y)] [(.ref y), (.int (0 : Int32))])) rfl rfl (hb hby own_d12_30)
  refine own_by (T' := T7) (g' := (mkF m 33 #[.val (.ref x), .val (.ref y), .val (.ref y)] [(.int (0 : Int32)), (.int (0 : Int32))])) st7 ?_
  refine own_by (T' := T7) (g' := (mkF m 36 #[.val (.ref x), .val (.ref y), .val (.ref y)] [])) (fun _ kt_ => XS.icmpNo X7.here hx rfl (hb hby own_d12_33) rfl (XT.ii_ne_f (by decide)) kt_) ?_
  refine own_by (T' := T7) (g' := (mkF m 37 #[.val (.ref x), .val (.ref y), .val (.ref y)] [(.ref x)])) (fun _ kt_ => XS.aloadN X7.here hx rfl (hb hby own_d12_36) rfl rfl kt_) ?_
  obtain ⟨T8, X8, e8, st8⟩ := getF X7 hx hZ hown (host := "") (Or.inl (hw _ (List.mem_of_getElem? (i := 32) rfl))) Via.refl e7 Fv1 (g := (mkF m 37 #[.val (.ref x), .val (.ref y), .val (.ref y)] [(.ref x)])) rfl rfl (hb hby own_d12_37)
  refine own_by (T' := T8) (g' := (mkF m 40 #[.val (.ref x), .val (.ref y), .val (.ref y)] [(.ref d1)])) st8 ?_
  refine own_by (T' := T8) (g' := (mkF m 41 #[.val (.ref x), .val (.ref y), .val (.ref y)] [(.ref y), (.ref d1)])) (fun _ kt_ => XS.aloadN X8.here hx rfl (hb hby own_d12_40) rfl rfl kt_) ?_
  obtain ⟨T9, X9, e9, st9⟩ := getF X8 hx hZ hown (host := "") (Or.inl (hw _ (List.mem_of_getElem? (i := 32) rfl))) Via.refl e8 Fv2 (g := (mkF m 41 #[.val (.ref x), .val (.ref y), .val (.ref y)] [(.ref y), (.ref d1)])) rfl rfl (hb hby own_d12_41)
  refine own_by (T' := T9) (g' := (mkF m 44 #[.val (.ref x), .val (.ref y), .val (.ref y)] [(.ref d2), (.ref d1)])) st9 ?_
  obtain ⟨_, _, ⟨T10, L10, k10, n10⟩, -, X10, ⟨Lc10, hQ10, l10, y10, z10⟩, st10⟩ := Jvm.LawKit.callS X9 hx (y := (⟨"java/lang/StringLatin1", "equals", "([B[B)Z"⟩ : MethodName)) hown (mvT hZ (hw _ (List.mem_of_getElem? (i := 69) rfl))) (mvT hZ (hw _ (List.mem_of_getElem? (i := 70) rfl))) (mvT hZ (hw _ (List.mem_of_getElem? (i := 71) rfl))) (mvT hZ (hw _ (List.mem_of_getElem? (i := 72) rfl))) (by decide) (backOf (W := 0) (rmLEq_2_3 l Z a0 hw [] zC GS d1 d2 k1 k2 b0 b1 c0 c1 c2 h0 n0 (by omega) O0 V1 V2) hZ (hw _ (List.mem_of_getElem? (i := 72) rfl)) (hw _ (List.mem_of_getElem? (i := 71) rfl)) (by decide) (by decide)) (g := (mkF m 44 #[.val (.ref x), .val (.ref y), .val (.ref y)] [(.ref d2), (.ref d1)])) rfl (by rw [hml]; rfl) (argsL := [(.ref d1), (.ref d2)]) (rest := []) (lenOf own_pd_4 rfl) rfl (by show 2 * 0 + _ ≤ _; exact Nat.le_of_eq rfl) (hb hby own_d12_44) (fun _ _ => ⟨rfl, e9, (by decide : 0 + 0 ≤ _), (by decide : 0 + 0 ≤ _)⟩)
  dsimp only [Pt.U, Pt.locs, Pt.cells, Pt.slots] at X10 l10 y10 z10 st10 hQ10
  subst l10 y10 z10
  obtain ⟨rfl, N10q, e10⟩ := hQ10
  have N11 := Fr.app N0 N10q
  refine own_by (T' := T10) (g' := (mkF m 47 #[.val (.ref x), .val (.ref y), .val (.ref y)] [(.int (0 : Int32))])) st10 ?_
  refine own_by (T' := T10) (g' := (mkF m 54 #[.val (.ref x), .val (.ref y), .val (.ref y)] [])) (fun _ kt_ => XS.ifYes X10.here hx rfl (pc0 := 47) (pc' := 54) rfl (hb hby own_d12_47) rfl (XT.i0_eq_t (by decide)) (by decide) (by decide) kt_) ?_
  refine own_by (T' := T10) (g' := (mkF m 55 #[.val (.ref x), .val (.ref y), .val (.ref y)] [(.int (0 : Int32))])) (fun _ kt_ => XS.iconst X10.here hx rfl (hb hby own_d12_54) kt_) ?_
  have hn12 : nar .boolean (0 : Int32) = (0 : Int32) := rfl
  obtain ⟨fs13, hr13, hrun13, hended13, hW13, hsame13⟩ := X10.leave (v := some (.int (nar .boolean (0 : Int32)))) (fun h => by rw [Bd.returns] at h; cases h)
  refine ⟨_, _, retN X10 hx (t := .boolean) Bd.returns (by simp) (hb hby own_d12_55) hr13, hrun13, hended13, _, _, rfl, ?_, ⟨_, rfl⟩, hW13, hsame13.mono (by decide) (by decide)⟩
  show Q_rmSEq_2_3 Z zC x y d1 d2 k1 k2 b0 b1 c0 c1 c2 h0 n0 _ T10.heap _
  exact ⟨(congrArg (fun z => some (Value.int z)) hn12), N11, e10⟩
theorem own_ef_rmLEq_3_1 (m : MethodId) (x0 : Addr) (x1 : Addr) : entryFrame m #[(.ref x0), (.ref x1)] 3 = mkF m 0 #[.val (.ref x0), .val (.ref x1), .unset] [] := by first | (simp [entryFrame, mkF, argsToLocals, Value.category]; done) | rfl
def Q_rmLEq_3_1 (Z : State) (zC : Int32) (d1 : Addr) (d2 : Addr) (k1 : ClassId) (k2 : ClassId) (b0 : Int32) (b1 : Int32) (b2 : Int32) (c0 : Int32) (h0 : Heap) (n0 : Nat) (vv_ : Option Value) (hh_ : Heap) (LL_ : List Loc) : Prop := vv_ = some (.int (0 : Int32)) ∧ Fr n0 LL_ ∧ hh_ = h0
set_option maxRecDepth 65536 in
set_option maxHeartbeats 40000000 in
theorem rmLEq_3_1 (l : Launch) (Z : State) (a0 : Array Value) (hw : ∀ d ∈ tables_1, d.before a0 Z = true) (ws : List Jvm.Cond) (zC : Int32) (GS : Glob Z zC) (d1 : Addr) (d2 : Addr) (k1 : ClassId) (k2 : ClassId) (b0 : Int32) (b1 : Int32) (b2 : Int32) (c0 : Int32) (h0 : Heap) (n0 : Nat) (Z0 : n0 ≤ h0.size) (O0 : Old Z n0 h0) (V1 : Arv Z h0 d1 k1 .byte (3 : Int32) [(.int b0), (.int b1), (.int b2)] (.int (0 : Int32))) (V2 : Arv Z h0 d2 k2 .byte (1 : Int32) [(.int c0)] (.int (0 : Int32))) :
    MetFree l (⟨"java/lang/StringLatin1", "equals", "([B[B)Z"⟩ : MethodName) (head1 (Jvm.Cond.code (⟨"java/lang/StringLatin1", "equals", "([B[B)Z"⟩ : MethodName) jdk_43_method_13_code 3 (some .boolean) :: ws) ({ frames := 0, cells := 0, slots := 0, locals := 0 } : Room)) (fun aa_ UU_ => aa_ = #[(.ref d1), (.ref d2)] ∧ Z.Warmed39 UU_.vm ∧ UU_.heap = h0) (fun _ _ _ _ _ => True) (fun _ UU_ oo_ UV_ => ∃ vv_ LL_, oo_ = .returned vv_ ∧ Q_rmLEq_3_1 Z zC d1 d2 k1 k2 b0 b1 b2 c0 h0 n0 vv_ UV_.heap LL_ ∧ FrameEnd UU_ oo_ UV_ LL_ ({ frames := 0, cells := 0, slots := 0, locals := 0 } : Room).cells ({ frames := 0, cells := 0, slots := 0, locals := 0 } : Room).slots) := by
  refine MetFree.of_bodySF (plainFor_of_name own_pn_java_lang_StringLatin1) hisR ?_
  intro p e s m args below meth c s₁ Bd hml0 hP hK
  obtain ⟨rfl, hZ, hh⟩ := hP
  have hx := Bd.exec
  have hby := Bd.bytes
  have hml : c.maxLocals = 3 := hml0
  have hown : s.vm.findClass "java/lang/StringLatin1" = some m.cls := findClass_of_methodNamed Bd.named
  have hnm := (name_of_methodNamed Bd.named Bd.method).1
  have X0 : Stand p l e ({ frames := 0, cells := 0, slots := 0, locals := 0 } : Room) s m #[(.ref d1), (.ref d2)] below meth c s₁ [] 0 0 := Stand.of_body Bd
  have e0 : s₁.heap = h0 := by rw [← hh, Bd.state]; rfl
  have N0 := Fr.nil n0
  have hn0 : Z.heap.size = n0 := O0.1
  have KT0 : Keep h0 h0 [] := Keep.refl _ _
  refine own_enter (Φ := fun oo_ UV_ => ∃ vv_ LL_, oo_ = .returned vv_ ∧ Q_rmLEq_3_1 Z zC d1 d2 k1 k2 b0 b1 b2 c0 h0 n0 vv_ UV_.heap LL_ ∧ FrameEnd s oo_ UV_ LL_ ({ frames := 0, cells := 0, slots := 0, locals := 0 } : Room).cells ({ frames := 0, cells := 0, slots := 0, locals := 0 } : Room).slots) (own_ef_rmLEq_3_1 m d1 d2) ?_
  refine own_by (T' := s₁) (g' := (mkF m 1 #[.val (.ref d1), .val (.ref d2), .unset] [(.ref d1)])) (fun _ kt_ => XS.aloadN X0.here hx rfl (hb hby own_d13_0) rfl rfl kt_) ?_
  obtain ⟨cl1, Ar1, q1, S1, M1, H1, G1⟩ := id V1
  refine own_by (T' := s₁) (g' := (mkF m 2 #[.val (.ref d1), .val (.ref d2), .unset] [(.int (3 : Int32))])) (fun _ kt_ => X0.arraylength hx (by rw [e0]; exact Ar1.1) (State.isArrayOf_alike hZ.alike Ar1.2.1) (g := (mkF m 1 #[.val (.ref d1), .val (.ref d2), .unset] [(.ref d1)])) rfl rfl (hb hby own_d13_1) _ (by rw [len_of S1 M1]; exact kt_)) ?_
  refine own_by (T' := s₁) (g' := (mkF m 3 #[.val (.ref d1), .val (.ref d2), .unset] [(.ref d2), (.int (3 : Int32))])) (fun _ kt_ => XS.aloadN X0.here hx rfl (hb hby own_d13_2) rfl rfl kt_) ?_
  obtain ⟨cl2, Ar2, q2, S2, M2, H2, G2⟩ := id V2
  refine own_by (T' := s₁) (g' := (mkF m 4 #[.val (.ref d1), .val (.ref d2), .unset] [(.int (1 : Int32)), (.int (3 : Int32))])) (fun _ kt_ => X0.arraylength hx (by rw [e0]; exact Ar2.1) (State.isArrayOf_alike hZ.alike Ar2.2.1) (g := (mkF m 3 #[.val (.ref d1), .val (.ref d2), .unset] [(.ref d2), (.int (3 : Int32))])) rfl rfl (hb hby own_d13_3) _ (by rw [len_of S2 M2]; exact kt_)) ?_
  refine own_by (T' := s₁) (g' := (mkF m 34 #[.val (.ref d1), .val (.ref d2), .unset] [])) (fun _ kt_ => XS.icmpYes X0.here hx rfl (pc0 := 4) (pc' := 34) rfl (hb hby own_d13_4) rfl (XT.ii_ne_t (by decide)) (by decide) (by decide) kt_) ?_
  refine own_by (T' := s₁) (g' := (mkF m 35 #[.val (.ref d1), .val (.ref d2), .unset] [(.int (0 : Int32))])) (fun _ kt_ => XS.iconst X0.here hx rfl (hb hby own_d13_34) kt_) ?_
  have hn3 : nar .boolean (0 : Int32) = (0 : Int32) := rfl
  obtain ⟨fs4, hr4, hrun4, hended4, hW4, hsame4⟩ := X0.leave (v := some (.int (nar .boolean (0 : Int32)))) (fun h => by rw [Bd.returns] at h; cases h)
  refine ⟨_, _, retN X0 hx (t := .boolean) Bd.returns (by simp) (hb hby own_d13_35) hr4, hrun4, hended4, _, _, rfl, ?_, ⟨_, rfl⟩, hW4, hsame4.mono (by decide) (by decide)⟩
  show Q_rmLEq_3_1 Z zC d1 d2 k1 k2 b0 b1 b2 c0 h0 n0 _ s₁.heap _
  exact ⟨(congrArg (fun z => some (Value.int z)) hn3), N0, e0⟩
theorem own_ef_rmSEq_3_1 (m : MethodId) (x0 : Addr) (x1 : Addr) : entryFrame m #[(.ref x0), (.ref x1)] 3 = mkF m 0 #[.val (.ref x0), .val (.ref x1), .unset] [] := by first | (simp [entryFrame, mkF, argsToLocals, Value.category]; done) | rfl
def Q_rmSEq_3_1 (Z : State) (zC : Int32) (x : Addr) (y : Addr) (d1 : Addr) (d2 : Addr) (k1 : ClassId) (k2 : ClassId) (b0 : Int32) (b1 : Int32) (b2 : Int32) (c0 : Int32) (h0 : Heap) (n0 : Nat) (vv_ : Option Value) (hh_ : Heap) (LL_ : List Loc) : Prop := vv_ = some (.int (0 : Int32)) ∧ Fr n0 LL_ ∧ hh_ = h0
set_option maxRecDepth 65536 in
set_option maxHeartbeats 40000000 in
theorem rmSEq_3_1 (l : Launch) (Z : State) (a0 : Array Value) (hw : ∀ d ∈ tables_1, d.before a0 Z = true) (ws : List Jvm.Cond) (zC : Int32) (GS : Glob Z zC) (x : Addr) (y : Addr) (d1 : Addr) (d2 : Addr) (k1 : ClassId) (k2 : ClassId) (b0 : Int32) (b1 : Int32) (b2 : Int32) (c0 : Int32) (h0 : Heap) (n0 : Nat) (Z0 : n0 ≤ h0.size) (O0 : Old Z n0 h0) (hxy : x ≠ y) (Ey : Exa Z h0 y "java/lang/String") (Fc1 : Fld Z h0 x "java/lang/String" "coder" "B" (.int (0 : Int32))) (Fc2 : Fld Z h0 y "java/lang/String" "coder" "B" (.int (0 : Int32))) (Fv1 : Fld Z h0 x "java/lang/String" "value" "[B" (.ref d1)) (Fv2 : Fld Z h0 y "java/lang/String" "value" "[B" (.ref d2)) (V1 : Arv Z h0 d1 k1 .byte (3 : Int32) [(.int b0), (.int b1), (.int b2)] (.int (0 : Int32))) (V2 : Arv Z h0 d2 k2 .byte (1 : Int32) [(.int c0)] (.int (0 : Int32))) :
    MetFree l (⟨"java/lang/String", "equals", "(Ljava/lang/Object;)Z"⟩ : MethodName) (head1 (Jvm.Cond.code (⟨"java/lang/String", "equals", "(Ljava/lang/Object;)Z"⟩ : MethodName) jdk_42_method_66_code 3 (some .boolean) :: ws) ({ frames := 1, cells := 0, slots := 0, locals := 14 } : Room)) (fun aa_ UU_ => aa_ = #[(.ref x), (.ref y)] ∧ Z.Warmed39 UU_.vm ∧ UU_.heap = h0) (fun _ _ _ _ _ => True) (fun _ UU_ oo_ UV_ => ∃ vv_ LL_, oo_ = .returned vv_ ∧ Q_rmSEq_3_1 Z zC x y d1 d2 k1 k2 b0 b1 b2 c0 h0 n0 vv_ UV_.heap LL_ ∧ FrameEnd UU_ oo_ UV_ LL_ ({ frames := 1, cells := 0, slots := 0, locals := 14 } : Room).cells ({ frames := 1, cells := 0, slots := 0, locals := 14 } : Room).slots) := by
  refine MetFree.of_bodySF (plainFor_of_name own_pn_java_lang_String) hisR ?_
  intro p e s m args below meth c s₁ Bd hml0 hP hK
  obtain ⟨rfl, hZ, hh⟩ := hP
  have hx := Bd.exec
  have hby := Bd.bytes
  have hml : c.maxLocals = 3 := hml0
  have hown : s.vm.findClass "java/lang/String" = some m.cls := findClass_of_methodNamed Bd.named
  have hnm := (name_of_methodNamed Bd.named Bd.method).1
  have X0 : Stand p l e ({ frames := 1, cells := 0, slots := 0, locals := 14 } : Room) s m #[(.ref x), (.ref y)] below meth c s₁ [] 0 0 := Stand.of_body Bd
  have e0 : s₁.heap = h0 := by rw [← hh, Bd.state]; rfl
  have N0 := Fr.nil n0
  have hn0 : Z.heap.size = n0 := O0.1
  have KT0 : Keep h0 h0 [] := Keep.refl _ _
  refine own_enter (Φ := fun oo_ UV_ => ∃ vv_ LL_, oo_ = .returned vv_ ∧ Q_rmSEq_3_1 Z zC x y d1 d2 k1 k2 b0 b1 b2 c0 h0 n0 vv_ UV_.heap LL_ ∧ FrameEnd s oo_ UV_ LL_ ({ frames := 1, cells := 0, slots := 0, locals := 14 } : Room).cells ({ frames := 1, cells := 0, slots := 0, locals := 14 } : Room).slots) (own_ef_rmSEq_3_1 m x y) ?_
  have ne1 : x ≠ y := hxy
  refine own_by (T' := s₁) (g' := (mkF m 1 #[.val (.ref x), .val (.ref y), .unset] [(.ref x)])) (fun _ kt_ => XS.aloadN X0.here hx rfl (hb hby own_d12_0) rfl rfl kt_) ?_
  refine own_by (T' := s₁) (g' := (mkF m 2 #[.val (.ref x), .val (.ref y), .unset] [(.ref y), (.ref x)])) (fun _ kt_ => XS.aloadN X0.here hx rfl (hb hby own_d12_1) rfl rfl kt_) ?_
  refine own_by (T' := s₁) (g' := (mkF m 7 #[.val (.ref x), .val (.ref y), .unset] [])) (fun _ kt_ => Jvm.RoadKit.acmp (g := (mkF m 2 #[.val (.ref x), .val (.ref y), .unset] [(.ref y), (.ref x)])) X0 hx rfl rfl rfl (pc0 := 2) (pc' := 7) (same := false) rfl (hb hby own_d12_2) rfl (decide_eq_false fun q => ne1 (Value.ref.inj q)) (by decide) (by decide) kt_) ?_
  refine own_by (T' := s₁) (g' := (mkF m 8 #[.val (.ref x), .val (.ref y), .unset] [(.ref y)])) (fun _ kt_ => XS.aloadN X0.here hx rfl (hb hby own_d12_7) rfl rfl kt_) ?_
  obtain ⟨T2, X2, e2, st2⟩ := instY X0 hx hZ hown (hw _ (List.mem_of_getElem? (i := 68) rfl)) e0 (Ins.self Ey) (g := (mkF m 8 #[.val (.ref x), .val (.ref y), .unset] [(.ref y)])) rfl rfl (hb hby own_d12_8)
  refine own_by (T' := T2) (g' := (mkF m 11 #[.val (.ref x), .val (.ref y), .unset] [(.int (1 : Int32))])) st2 ?_
  refine own_by (T' := T2) (g' := (mkF m 14 #[.val (.ref x), .val (.ref y), .unset] [])) (fun _ kt_ => XS.ifNo X2.here hx rfl (hb hby own_d12_11) rfl (XT.i0_eq_f (by decide)) kt_) ?_
  refine own_by (T' := T2) (g' := (mkF m 15 #[.val (.ref x), .val (.ref y), .unset] [(.ref y)])) (fun _ kt_ => XS.aloadN X2.here hx rfl (hb hby own_d12_14) rfl rfl kt_) ?_
  obtain ⟨T3, X3, e3, st3⟩ := castY X2 hx hZ hown (hw _ (List.mem_of_getElem? (i := 68) rfl)) e2 (Ins.self Ey) (g := (mkF m 15 #[.val (.ref x), .val (.ref y), .unset] [(.ref y)])) rfl rfl (hb hby own_d12_15)
  refine own_by (T' := T3) (g' := (mkF m 18 #[.val (.ref x), .val (.ref y), .unset] [(.ref y)])) st3 ?_
  refine own_by (T' := T3) (g' := (mkF m 19 #[.val (.ref x), .val (.ref y), .val (.ref y)] [])) (fun _ kt_ => XS.astoreN X3.here hx rfl (hb hby own_d12_18) rfl rfl (l' := #[.val (.ref x), .val (.ref y), .val (.ref y)]) rfl kt_) ?_
  have f4 := GS.1.ext O0.2
  obtain ⟨T5, X5, e5, st5⟩ := getS2 X3 hx hZ hown (host := "") (Or.inl (hw _ (List.mem_of_getElem? (i := 18) rfl))) Via.refl e3 f4 (g := (mkF m 19 #[.val (.ref x), .val (.ref y), .val (.ref y)] [])) rfl (hb hby own_d12_19)
  refine own_by (T' := T5) (g' := (mkF m 22 #[.val (.ref x), .val (.ref y), .val (.ref y)] [(.int zC)])) st5 ?_
  refine own_by (T' := T5) (g' := (mkF m 25 #[.val (.ref x), .val (.ref y), .val (.ref y)] [])) (fun _ kt_ => XS.ifNo X5.here hx rfl (hb hby own_d12_22) rfl (XT.i0_eq_f GS.2) kt_) ?_
  refine own_by (T' := T5) (g' := (mkF m 26 #[.val (.ref x), .val (.ref y), .val (.ref y)] [(.ref x)])) (fun _ kt_ => XS.aloadN X5.here hx rfl (hb hby own_d12_25) rfl rfl kt_) ?_
  obtain ⟨T6, X6, e6, st6⟩ := getF X5 hx hZ hown (host := "") (Or.inl (hw _ (List.mem_of_getElem? (i := 30) rfl))) Via.refl e5 Fc1 (g := (mkF m 26 #[.val (.ref x), .val (.ref y), .val (.ref y)] [(.ref x)])) rfl rfl (hb hby own_d12_26)
  refine own_by (T' := T6) (g' := (mkF m 29 #[.val (.ref x), .val (.ref y), .val (.ref y)] [(.int (0 : Int32))])) st6 ?_
  refine own_by (T' := T6) (g' := (mkF m 30 #[.val (.ref x), .val (.ref y), .val (.ref y)] [(.ref y), (.int (0 : Int32))])) (fun _ kt_ => XS.aloadN X6.here hx rfl (hb hby own_d12_29) rfl rfl kt_) ?_
  obtain ⟨T7, X7, e7, st7⟩ := getF X6 hx hZ hown (host := "") (Or.inl (hw _ (List.mem_of_getElem? (i := 30) rfl))) Via.refl e6 Fc2 (g := (mkF m 30 #[.val (.ref x), .val (.ref y), .val (.ref y)] [(.ref y), (.int (0 : Int32))])) rfl rfl (hb hby own_d12_30)
  refine own_by (T' := T7) (g' := (mkF m 33 #[.val (.ref x), .val (.ref y), .val (.ref y)] [(.int (0 : Int32)), (.int (0 : Int32))])) st7 ?_
  refine own_by (T' := T7) (g' := (mkF m 36 #[.val (.ref x), .val (.ref y), .val (.ref y)] [])) (fun _ kt_ => XS.icmpNo X7.here hx rfl (hb hby own_d12_33) rfl (XT.ii_ne_f (by decide)) kt_) ?_
  refine own_by (T' := T7) (g' := (mkF m 37 #[.val (.ref x), .val (.ref y), .val (.ref y)] [(.ref x)])) (fun _ kt_ => XS.aloadN X7.here hx rfl (hb hby own_d12_36) rfl rfl kt_) ?_
  obtain ⟨T8, X8, e8, st8⟩ := getF X7 hx hZ hown (host := "") (Or.inl (hw _ (List.mem_of_getElem? (i := 32) rfl))) Via.refl e7 Fv1 (g := (mkF m 37 #[.val (.ref x), .val (.ref y), .val (.ref y)] [(.ref x)])) rfl rfl (hb hby own_d12_37)
  refine own_by (T' := T8) (g' := (mkF m 40 #[.val (.ref x), .val (.ref y), .val (.ref y)] [(.ref d1)])) st8 ?_
  refine own_by (T' := T8) (g' := (mkF m 41 #[.val (.ref x), .val (.ref y), .val (.ref y)] [(.ref y), (.ref d1)])) (fun _ kt_ => XS.aloadN X8.here hx rfl (hb hby own_d12_40) rfl rfl kt_) ?_
  obtain ⟨T9, X9, e9, st9⟩ := getF X8 hx hZ hown (host := "") (Or.inl (hw _ (List.mem_of_getElem? (i := 32) rfl))) Via.refl e8 Fv2 (g := (mkF m 41 #[.val (.ref x), .val (.ref y), .val (.ref y)] [(.ref y), (.ref d1)])) rfl rfl (hb hby own_d12_41)
  refine own_by (T' := T9) (g' := (mkF m 44 #[.val (.ref x), .val (.ref y), .val (.ref y)] [(.ref d2), (.ref d1)])) st9 ?_
  obtain ⟨_, _, ⟨T10, L10, k10, n10⟩, -, X10, ⟨Lc10, hQ10, l10, y10, z10⟩, st10⟩ := Jvm.LawKit.callS X9 hx (y := (⟨"java/lang/StringLatin1", "equals", "([B[B)Z"⟩ : MethodName)) hown (mvT hZ (hw _ (List.mem_of_getElem? (i := 69) rfl))) (mvT hZ (hw _ (List.mem_of_getElem? (i := 70) rfl))) (mvT hZ (hw _ (List.mem_of_getElem? (i := 71) rfl))) (mvT hZ (hw _ (List.mem_of_getElem? (i := 72) rfl))) (by decide) (backOf (W := 0) (rmLEq_3_1 l Z a0 hw [] zC GS d1 d2 k1 k2 b0 b1 b2 c0 h0 n0 (by omega) O0 V1 V2) hZ (hw _ (List.mem_of_getElem? (i := 72) rfl)) (hw _ (List.mem_of_getElem? (i := 71) rfl)) (by decide) (by decide)) (g := (mkF m 44 #[.val (.ref x), .val (.ref y), .val (.ref y)] [(.ref d2), (.ref d1)])) rfl (by rw [hml]; rfl) (argsL := [(.ref d1), (.ref d2)]) (rest := []) (lenOf own_pd_4 rfl) rfl (by show 2 * 0 + _ ≤ _; exact Nat.le_of_eq rfl) (hb hby own_d12_44) (fun _ _ => ⟨rfl, e9, (by decide : 0 + 0 ≤ _), (by decide : 0 + 0 ≤ _)⟩)
  dsimp only [Pt.U, Pt.locs, Pt.cells, Pt.slots] at X10 l10 y10 z10 st10 hQ10
  subst l10 y10 z10
  obtain ⟨rfl, N10q, e10⟩ := hQ10
  have N11 := Fr.app N0 N10q
  refine own_by (T' := T10) (g' := (mkF m 47 #[.val (.ref x), .val (.ref y), .val (.ref y)] [(.int (0 : Int32))])) st10 ?_
  refine own_by (T' := T10) (g' := (mkF m 54 #[.val (.ref x), .val (.ref y), .val (.ref y)] [])) (fun _ kt_ => XS.ifYes X10.here hx rfl (pc0 := 47) (pc' := 54) rfl (hb hby own_d12_47) rfl (XT.i0_eq_t (by decide)) (by decide) (by decide) kt_) ?_
  refine own_by (T' := T10) (g' := (mkF m 55 #[.val (.ref x), .val (.ref y), .val (.ref y)] [(.int (0 : Int32))])) (fun _ kt_ => XS.iconst X10.here hx rfl (hb hby own_d12_54) kt_) ?_
  have hn12 : nar .boolean (0 : Int32) = (0 : Int32) := rfl
  obtain ⟨fs13, hr13, hrun13, hended13, hW13, hsame13⟩ := X10.leave (v := some (.int (nar .boolean (0 : Int32)))) (fun h => by rw [Bd.returns] at h; cases h)
  refine ⟨_, _, retN X10 hx (t := .boolean) Bd.returns (by simp) (hb hby own_d12_55) hr13, hrun13, hended13, _, _, rfl, ?_, ⟨_, rfl⟩, hW13, hsame13.mono (by decide) (by decide)⟩
  show Q_rmSEq_3_1 Z zC x y d1 d2 k1 k2 b0 b1 b2 c0 h0 n0 _ T10.heap _
  exact ⟨(congrArg (fun z => some (Value.int z)) hn12), N11, e10⟩
theorem own_ef_rmLEq_3_2 (m : MethodId) (x0 : Addr) (x1 : Addr) : entryFrame m #[(.ref x0), (.ref x1)] 3 = mkF m 0 #[.val (.ref x0), .val (.ref x1), .unset] [] := by first | (simp [entryFrame, mkF, argsToLocals, Value.category]; done) | rfl
def Q_rmLEq_3_2 (Z : State) (zC : Int32) (d1 : Addr) (d2 : Addr) (k1 : ClassId) (k2 : ClassId) (b0 : Int32) (b1 : Int32) (b2 : Int32) (c0 : Int32) (c1 : Int32) (h0 : Heap) (n0 : Nat) (vv_ : Option Value) (hh_ : Heap) (LL_ : List Loc) : Prop := vv_ = some (.int (0 : Int32)) ∧ Fr n0 LL_ ∧ hh_ = h0
set_option maxRecDepth 65536 in
set_option maxHeartbeats 40000000 in
theorem rmLEq_3_2 (l : Launch) (Z : State) (a0 : Array Value) (hw : ∀ d ∈ tables_1, d.before a0 Z = true) (ws : List Jvm.Cond) (zC : Int32) (GS : Glob Z zC) (d1 : Addr) (d2 : Addr) (k1 : ClassId) (k2 : ClassId) (b0 : Int32) (b1 : Int32) (b2 : Int32) (c0 : Int32) (c1 : Int32) (h0 : Heap) (n0 : Nat) (Z0 : n0 ≤ h0.size) (O0 : Old Z n0 h0) (V1 : Arv Z h0 d1 k1 .byte (3 : Int32) [(.int b0), (.int b1), (.int b2)] (.int (0 : Int32))) (V2 : Arv Z h0 d2 k2 .byte (2 : Int32) [(.int c0), (.int c1)] (.int (0 : Int32))) :
    MetFree l (⟨"java/lang/StringLatin1", "equals", "([B[B)Z"⟩ : MethodName) (head1 (Jvm.Cond.code (⟨"java/lang/StringLatin1", "equals", "([B[B)Z"⟩ : MethodName) jdk_43_method_13_code 3 (some .boolean) :: ws) ({ frames := 0, cells := 0, slots := 0, locals := 0 } : Room)) (fun aa_ UU_ => aa_ = #[(.ref d1), (.ref d2)] ∧ Z.Warmed39 UU_.vm ∧ UU_.heap = h0) (fun _ _ _ _ _ => True) (fun _ UU_ oo_ UV_ => ∃ vv_ LL_, oo_ = .returned vv_ ∧ Q_rmLEq_3_2 Z zC d1 d2 k1 k2 b0 b1 b2 c0 c1 h0 n0 vv_ UV_.heap LL_ ∧ FrameEnd UU_ oo_ UV_ LL_ ({ frames := 0, cells := 0, slots := 0, locals := 0 } : Room).cells ({ frames := 0, cells := 0, slots := 0, locals := 0 } : Room).slots) := by
  refine MetFree.of_bodySF (plainFor_of_name own_pn_java_lang_StringLatin1) hisR ?_
  intro p e s m args below meth c s₁ Bd hml0 hP hK
  obtain ⟨rfl, hZ, hh⟩ := hP
  have hx := Bd.exec
  have hby := Bd.bytes
  have hml : c.maxLocals = 3 := hml0
  have hown : s.vm.findClass "java/lang/StringLatin1" = some m.cls := findClass_of_methodNamed Bd.named
  have hnm := (name_of_methodNamed Bd.named Bd.method).1
  have X0 : Stand p l e ({ frames := 0, cells := 0, slots := 0, locals := 0 } : Room) s m #[(.ref d1), (.ref d2)] below meth c s₁ [] 0 0 := Stand.of_body Bd
  have e0 : s₁.heap = h0 := by rw [← hh, Bd.state]; rfl
  have N0 := Fr.nil n0
  have hn0 : Z.heap.size = n0 := O0.1
  have KT0 : Keep h0 h0 [] := Keep.refl _ _
  refine own_enter (Φ := fun oo_ UV_ => ∃ vv_ LL_, oo_ = .returned vv_ ∧ Q_rmLEq_3_2 Z zC d1 d2 k1 k2 b0 b1 b2 c0 c1 h0 n0 vv_ UV_.heap LL_ ∧ FrameEnd s oo_ UV_ LL_ ({ frames := 0, cells := 0, slots := 0, locals := 0 } : Room).cells ({ frames := 0, cells := 0, slots := 0, locals := 0 } : Room).slots) (own_ef_rmLEq_3_2 m d1 d2) ?_
  refine own_by (T' := s₁) (g' := (mkF m 1 #[.val (.ref d1), .val (.ref d2), .unset] [(.ref d1)])) (fun _ kt_ => XS.aloadN X0.here hx rfl (hb hby own_d13_0) rfl rfl kt_) ?_
  obtain ⟨cl1, Ar1, q1, S1, M1, H1, G1⟩ := id V1
  refine own_by (T' := s₁) (g' := (mkF m 2 #[.val (.ref d1), .val (.ref d2), .unset] [(.int (3 : Int32))])) (fun _ kt_ => X0.arraylength hx (by rw [e0]; exact Ar1.1) (State.isArrayOf_alike hZ.alike Ar1.2.1) (g := (mkF m 1 #[.val (.ref d1), .val (.ref d2), .unset] [(.ref d1)])) rfl rfl (hb hby own_d13_1) _ (by rw [len_of S1 M1]; exact kt_)) ?_
  refine own_by (T' := s₁) (g' := (mkF m 3 #[.val (.ref d1), .val (.ref d2), .unset] [(.ref d2), (.int (3 : Int32))])) (fun _ kt_ => XS.aloadN X0.here hx rfl (hb hby own_d13_2) rfl rfl kt_) ?_
  obtain ⟨cl2, Ar2, q2, S2, M2, H2, G2⟩ := id V2
  refine own_by (T' := s₁) (g' := (mkF m 4 #[.val (.ref d1), .val (.ref d2), .unset] [(.int (2 : Int32)), (.int (3 : Int32))])) (fun _ kt_ => X0.arraylength hx (by rw [e0]; exact Ar2.1) (State.isArrayOf_alike hZ.alike Ar2.2.1) (g := (mkF m 3 #[.val (.ref d1), .val (.ref d2), .unset] [(.ref d2), (.int (3 : Int32))])) rfl rfl (hb hby own_d13_3) _ (by rw [len_of S2 M2]; exact kt_)) ?_
  refine own_by (T' := s₁) (g' := (mkF m 34 #[.val (.ref d1), .val (.ref d2), .unset] [])) (fun _ kt_ => XS.icmpYes X0.here hx rfl (pc0 := 4) (pc' := 34) rfl (hb hby own_d13_4) rfl (XT.ii_ne_t (by decide)) (by decide) (by decide) kt_) ?_
  refine own_by (T' := s₁) (g' := (mkF m 35 #[.val (.ref d1), .val (.ref d2), .unset] [(.int (0 : Int32))])) (fun _ kt_ => XS.iconst X0.here hx rfl (hb hby own_d13_34) kt_) ?_
  have hn3 : nar .boolean (0 : Int32) = (0 : Int32) := rfl
  obtain ⟨fs4, hr4, hrun4, hended4, hW4, hsame4⟩ := X0.leave (v := some (.int (nar .boolean (0 : Int32)))) (fun h => by rw [Bd.returns] at h; cases h)
  refine ⟨_, _, retN X0 hx (t := .boolean) Bd.returns (by simp) (hb hby own_d13_35) hr4, hrun4, hended4, _, _, rfl, ?_, ⟨_, rfl⟩, hW4, hsame4.mono (by decide) (by decide)⟩
  show Q_rmLEq_3_2 Z zC d1 d2 k1 k2 b0 b1 b2 c0 c1 h0 n0 _ s₁.heap _
  exact ⟨(congrArg (fun z => some (Value.int z)) hn3), N0, e0⟩
theorem own_ef_rmSEq_3_2 (m : MethodId) (x0 : Addr) (x1 : Addr) : entryFrame m #[(.ref x0), (.ref x1)] 3 = mkF m 0 #[.val (.ref x0), .val (.ref x1), .unset] [] := by first | (simp [entryFrame, mkF, argsToLocals, Value.category]; done) | rfl
def Q_rmSEq_3_2 (Z : State) (zC : Int32) (x : Addr) (y : Addr) (d1 : Addr) (d2 : Addr) (k1 : ClassId) (k2 : ClassId) (b0 : Int32) (b1 : Int32) (b2 : Int32) (c0 : Int32) (c1 : Int32) (h0 : Heap) (n0 : Nat) (vv_ : Option Value) (hh_ : Heap) (LL_ : List Loc) : Prop := vv_ = some (.int (0 : Int32)) ∧ Fr n0 LL_ ∧ hh_ = h0
set_option maxRecDepth 65536 in
set_option maxHeartbeats 40000000 in
theorem rmSEq_3_2 (l : Launch) (Z : State) (a0 : Array Value) (hw : ∀ d ∈ tables_1, d.before a0 Z = true) (ws : List Jvm.Cond) (zC : Int32) (GS : Glob Z zC) (x : Addr) (y : Addr) (d1 : Addr) (d2 : Addr) (k1 : ClassId) (k2 : ClassId) (b0 : Int32) (b1 : Int32) (b2 : Int32) (c0 : Int32) (c1 : Int32) (h0 : Heap) (n0 : Nat) (Z0 : n0 ≤ h0.size) (O0 : Old Z n0 h0) (hxy : x ≠ y) (Ey : Exa Z h0 y "java/lang/String") (Fc1 : Fld Z h0 x "java/lang/String" "coder" "B" (.int (0 : Int32))) (Fc2 : Fld Z h0 y "java/lang/String" "coder" "B" (.int (0 : Int32))) (Fv1 : Fld Z h0 x "java/lang/String" "value" "[B" (.ref d1)) (Fv2 : Fld Z h0 y "java/lang/String" "value" "[B" (.ref d2)) (V1 : Arv Z h0 d1 k1 .byte (3 : Int32) [(.int b0), (.int b1), (.int b2)] (.int (0 : Int32))) (V2 : Arv Z h0 d2 k2 .byte (2 : Int32) [(.int c0), (.int c1)] (.int (0 : Int32))) :
    MetFree l (⟨"java/lang/String", "equals", "(Ljava/lang/Object;)Z"⟩ : MethodName) (head1 (Jvm.Cond.code (⟨"java/lang/String", "equals", "(Ljava/lang/Object;)Z"⟩ : MethodName) jdk_42_method_66_code 3 (some .boolean) :: ws) ({ frames := 1, cells := 0, slots := 0, locals := 14 } : Room)) (fun aa_ UU_ => aa_ = #[(.ref x), (.ref y)] ∧ Z.Warmed39 UU_.vm ∧ UU_.heap = h0) (fun _ _ _ _ _ => True) (fun _ UU_ oo_ UV_ => ∃ vv_ LL_, oo_ = .returned vv_ ∧ Q_rmSEq_3_2 Z zC x y d1 d2 k1 k2 b0 b1 b2 c0 c1 h0 n0 vv_ UV_.heap LL_ ∧ FrameEnd UU_ oo_ UV_ LL_ ({ frames := 1, cells := 0, slots := 0, locals := 14 } : Room).cells ({ frames := 1, cells := 0, slots := 0, locals := 14 } : Room).slots) := by
  refine MetFree.of_bodySF (plainFor_of_name own_pn_java_lang_String) hisR ?_
  intro p e s m args below meth c s₁ Bd hml0 hP hK
  obtain ⟨rfl, hZ, hh⟩ := hP
  have hx := Bd.exec
  have hby := Bd.bytes
  have hml : c.maxLocals = 3 := hml0
  have hown : s.vm.findClass "java/lang/String" = some m.cls := findClass_of_methodNamed Bd.named
  have hnm := (name_of_methodNamed Bd.named Bd.method).1
  have X0 : Stand p l e ({ frames := 1, cells := 0, slots := 0, locals := 14 } : Room) s m #[(.ref x), (.ref y)] below meth c s₁ [] 0 0 := Stand.of_body Bd
  have e0 : s₁.heap = h0 := by rw [← hh, Bd.state]; rfl
  have N0 := Fr.nil n0
  have hn0 : Z.heap.size = n0 := O0.1
  have KT0 : Keep h0 h0 [] := Keep.refl _ _
  refine own_enter (Φ := fun oo_ UV_ => ∃ vv_ LL_, oo_ = .returned vv_ ∧ Q_rmSEq_3_2 Z zC x y d1 d2 k1 k2 b0 b1 b2 c0 c1 h0 n0 vv_ UV_.heap LL_ ∧ FrameEnd s oo_ UV_ LL_ ({ frames := 1, cells := 0, slots := 0, locals := 14 } : Room).cells ({ frames := 1, cells := 0, slots := 0, locals := 14 } : Room).slots) (own_ef_rmSEq_3_2 m x y) ?_
  have ne1 : x ≠ y := hxy
  refine own_by (T' := s₁) (g' := (mkF m 1 #[.val (.ref x), .val (.ref y), .unset] [(.ref x)])) (fun _ kt_ => XS.aloadN X0.here hx rfl (hb hby own_d12_0) rfl rfl kt_) ?_
  refine own_by (T' := s₁) (g' := (mkF m 2 #[.val (.ref x), .val (.ref y), .unset] [(.ref y), (.ref x)])) (fun _ kt_ => XS.aloadN X0.here hx rfl (hb hby own_d12_1) rfl rfl kt_) ?_
  refine own_by (T' := s₁) (g' := (mkF m 7 #[.val (.ref x), .val (.ref y), .unset] [])) (fun _ kt_ => Jvm.RoadKit.acmp (g := (mkF m 2 #[.val (.ref x), .val (.ref y), .unset] [(.ref y), (.ref x)])) X0 hx rfl rfl rfl (pc0 := 2) (pc' := 7) (same := false) rfl (hb hby own_d12_2) rfl (decide_eq_false fun q => ne1 (Value.ref.inj q)) (by decide) (by decide) kt_) ?_
  refine own_by (T' := s₁) (g' := (mkF m 8 #[.val (.ref x), .val (.ref y), .unset] [(.ref y)])) (fun _ kt_ => XS.aloadN X0.here hx rfl (hb hby own_d12_7) rfl rfl kt_) ?_
  obtain ⟨T2, X2, e2, st2⟩ := instY X0 hx hZ hown (hw _ (List.mem_of_getElem? (i := 68) rfl)) e0 (Ins.self Ey) (g := (mkF m 8 #[.val (.ref x), .val (.ref y), .unset] [(.ref y)])) rfl rfl (hb hby own_d12_8)
  refine own_by (T' := T2) (g' := (mkF m 11 #[.val (.ref x), .val (.ref y), .unset] [(.int (1 : Int32))])) st2 ?_
  refine own_by (T' := T2) (g' := (mkF m 14 #[.val (.ref x), .val (.ref y), .unset] [])) (fun _ kt_ => XS.ifNo X2.here hx rfl (hb hby own_d12_11) rfl (XT.i0_eq_f (by decide)) kt_) ?_
  refine own_by (T' := T2) (g' := (mkF m 15 #[.val (.ref x), .val (.ref y), .unset] [(.ref y)])) (fun _ kt_ => XS.aloadN X2.here hx rfl (hb hby own_d12_14) rfl rfl kt_) ?_
  obtain ⟨T3, X3, e3, st3⟩ := castY X2 hx hZ hown (hw _ (List.mem_of_getElem? (i := 68) rfl)) e2 (Ins.self Ey) (g := (mkF m 15 #[.val (.ref x), .val (.ref y), .unset] [(.ref y)])) rfl rfl (hb hby own_d12_15)
  refine own_by (T' := T3) (g' := (mkF m 18 #[.val (.ref x), .val (.ref y), .unset] [(.ref y)])) st3 ?_
  refine own_by (T' := T3) (g' := (mkF m 19 #[.val (.ref x), .val (.ref y), .val (.ref y)] [])) (fun _ kt_ => XS.astoreN X3.here hx rfl (hb hby own_d12_18) rfl rfl (l' := #[.val (.ref x), .val (.ref y), .val (.ref y)]) rfl kt_) ?_
  have f4 := GS.1.ext O0.2
  obtain ⟨T5, X5, e5, st5⟩ := getS2 X3 hx hZ hown (host := "") (Or.inl (hw _ (List.mem_of_getElem? (i := 18) rfl))) Via.refl e3 f4 (g := (mkF m 19 #[.val (.ref x), .val (.ref y), .val (.ref y)] [])) rfl (hb hby own_d12_19)
  refine own_by (T' := T5) (g' := (mkF m 22 #[.val (.ref x), .val (.ref y), .val (.ref y)] [(.int zC)])) st5 ?_
  refine own_by (T' := T5) (g' := (mkF m 25 #[.val (.ref x), .val (.ref y), .val (.ref y)] [])) (fun _ kt_ => XS.ifNo X5.here hx rfl (hb hby own_d12_22) rfl (XT.i0_eq_f GS.2) kt_) ?_
  refine own_by (T' := T5) (g' := (mkF m 26 #[.val (.ref x), .val (.ref y), .val (.ref y)] [(.ref x)])) (fun _ kt_ => XS.aloadN X5.here hx rfl (hb hby own_d12_25) rfl rfl kt_) ?_
  obtain ⟨T6, X6, e6, st6⟩ := getF X5 hx hZ hown (host := "") (Or.inl (hw _ (List.mem_of_getElem? (i := 30) rfl))) Via.refl e5 Fc1 (g := (mkF m 26 #[.val (.ref x), .val (.ref y), .val (.ref y)] [(.ref x)])) rfl rfl (hb hby own_d12_26)
  refine own_by (T' := T6) (g' := (mkF m 29 #[.val (.ref x), .val (.ref y), .val (.ref y)] [(.int (0 : Int32))])) st6 ?_
  refine own_by (T' := T6) (g' := (mkF m 30 #[.val (.ref x), .val (.ref y), .val (.ref y)] [(.ref y), (.int (0 : Int32))])) (fun _ kt_ => XS.aloadN X6.here hx rfl (hb hby own_d12_29) rfl rfl kt_) ?_
  obtain ⟨T7, X7, e7, st7⟩ := getF X6 hx hZ hown (host := "") (Or.inl (hw _ (List.mem_of_getElem? (i := 30) rfl))) Via.refl e6 Fc2 (g := (mkF m 30 #[.val (.ref x), .val (.ref y), .val (.ref y)] [(.ref y), (.int (0 : Int32))])) rfl rfl (hb hby own_d12_30)
  refine own_by (T' := T7) (g' := (mkF m 33 #[.val (.ref x), .val (.ref y), .val (.ref y)] [(.int (0 : Int32)), (.int (0 : Int32))])) st7 ?_
  refine own_by (T' := T7) (g' := (mkF m 36 #[.val (.ref x), .val (.ref y), .val (.ref y)] [])) (fun _ kt_ => XS.icmpNo X7.here hx rfl (hb hby own_d12_33) rfl (XT.ii_ne_f (by decide)) kt_) ?_
  refine own_by (T' := T7) (g' := (mkF m 37 #[.val (.ref x), .val (.ref y), .val (.ref y)] [(.ref x)])) (fun _ kt_ => XS.aloadN X7.here hx rfl (hb hby own_d12_36) rfl rfl kt_) ?_
  obtain ⟨T8, X8, e8, st8⟩ := getF X7 hx hZ hown (host := "") (Or.inl (hw _ (List.mem_of_getElem? (i := 32) rfl))) Via.refl e7 Fv1 (g := (mkF m 37 #[.val (.ref x), .val (.ref y), .val (.ref y)] [(.ref x)])) rfl rfl (hb hby own_d12_37)
  refine own_by (T' := T8) (g' := (mkF m 40 #[.val (.ref x), .val (.ref y), .val (.ref y)] [(.ref d1)])) st8 ?_
  refine own_by (T' := T8) (g' := (mkF m 41 #[.val (.ref x), .val (.ref y), .val (.ref y)] [(.ref y), (.ref d1)])) (fun _ kt_ => XS.aloadN X8.here hx rfl (hb hby own_d12_40) rfl rfl kt_) ?_
  obtain ⟨T9, X9, e9, st9⟩ := getF X8 hx hZ hown (host := "") (Or.inl (hw _ (List.mem_of_getElem? (i := 32) rfl))) Via.refl e8 Fv2 (g := (mkF m 41 #[.val (.ref x), .val (.ref y), .val (.ref y)] [(.ref y), (.ref d1)])) rfl rfl (hb hby own_d12_41)
  refine own_by (T' := T9) (g' := (mkF m 44 #[.val (.ref x), .val (.ref y), .val (.ref y)] [(.ref d2), (.ref d1)])) st9 ?_
  obtain ⟨_, _, ⟨T10, L10, k10, n10⟩, -, X10, ⟨Lc10, hQ10, l10, y10, z10⟩, st10⟩ := Jvm.LawKit.callS X9 hx (y := (⟨"java/lang/StringLatin1", "equals", "([B[B)Z"⟩ : MethodName)) hown (mvT hZ (hw _ (List.mem_of_getElem? (i := 69) rfl))) (mvT hZ (hw _ (List.mem_of_getElem? (i := 70) rfl))) (mvT hZ (hw _ (List.mem_of_getElem? (i := 71) rfl))) (mvT hZ (hw _ (List.mem_of_getElem? (i := 72) rfl))) (by decide) (backOf (W := 0) (rmLEq_3_2 l Z a0 hw [] zC GS d1 d2 k1 k2 b0 b1 b2 c0 c1 h0 n0 (by omega) O0 V1 V2) hZ (hw _ (List.mem_of_getElem? (i := 72) rfl)) (hw _ (List.mem_of_getElem? (i := 71) rfl)) (by decide) (by decide)) (g := (mkF m 44 #[.val (.ref x), .val (.ref y), .val (.ref y)] [(.ref d2), (.ref d1)])) rfl (by rw [hml]; rfl) (argsL := [(.ref d1), (.ref d2)]) (rest := []) (lenOf own_pd_4 rfl) rfl (by show 2 * 0 + _ ≤ _; exact Nat.le_of_eq rfl) (hb hby own_d12_44) (fun _ _ => ⟨rfl, e9, (by decide : 0 + 0 ≤ _), (by decide : 0 + 0 ≤ _)⟩)
  dsimp only [Pt.U, Pt.locs, Pt.cells, Pt.slots] at X10 l10 y10 z10 st10 hQ10
  subst l10 y10 z10
  obtain ⟨rfl, N10q, e10⟩ := hQ10
  have N11 := Fr.app N0 N10q
  refine own_by (T' := T10) (g' := (mkF m 47 #[.val (.ref x), .val (.ref y), .val (.ref y)] [(.int (0 : Int32))])) st10 ?_
  refine own_by (T' := T10) (g' := (mkF m 54 #[.val (.ref x), .val (.ref y), .val (.ref y)] [])) (fun _ kt_ => XS.ifYes X10.here hx rfl (pc0 := 47) (pc' := 54) rfl (hb hby own_d12_47) rfl (XT.i0_eq_t (by decide)) (by decide) (by decide) kt_) ?_
  refine own_by (T' := T10) (g' := (mkF m 55 #[.val (.ref x), .val (.ref y), .val (.ref y)] [(.int (0 : Int32))])) (fun _ kt_ => XS.iconst X10.here hx rfl (hb hby own_d12_54) kt_) ?_
  have hn12 : nar .boolean (0 : Int32) = (0 : Int32) := rfl
  obtain ⟨fs13, hr13, hrun13, hended13, hW13, hsame13⟩ := X10.leave (v := some (.int (nar .boolean (0 : Int32)))) (fun h => by rw [Bd.returns] at h; cases h)
  refine ⟨_, _, retN X10 hx (t := .boolean) Bd.returns (by simp) (hb hby own_d12_55) hr13, hrun13, hended13, _, _, rfl, ?_, ⟨_, rfl⟩, hW13, hsame13.mono (by decide) (by decide)⟩
  show Q_rmSEq_3_2 Z zC x y d1 d2 k1 k2 b0 b1 b2 c0 c1 h0 n0 _ T10.heap _
  exact ⟨(congrArg (fun z => some (Value.int z)) hn12), N11, e10⟩
theorem own_ef_rmLEq_3_3 (m : MethodId) (x0 : Addr) (x1 : Addr) : entryFrame m #[(.ref x0), (.ref x1)] 3 = mkF m 0 #[.val (.ref x0), .val (.ref x1), .unset] [] := by first | (simp [entryFrame, mkF, argsToLocals, Value.category]; done) | rfl
def Q_rmLEq_3_3 (Z : State) (zC : Int32) (d1 : Addr) (d2 : Addr) (k1 : ClassId) (k2 : ClassId) (b0 : Int32) (b1 : Int32) (b2 : Int32) (c0 : Int32) (c1 : Int32) (c2 : Int32) (h0 : Heap) (n0 : Nat) (vv_ : Option Value) (hh_ : Heap) (LL_ : List Loc) : Prop := vv_ = some (.int (if b0 = c0 then (if b1 = c1 then (if b2 = c2 then (1 : Int32) else (0 : Int32)) else (0 : Int32)) else (0 : Int32))) ∧ Fr n0 LL_ ∧ hh_ = h0
set_option maxRecDepth 65536 in
set_option maxHeartbeats 40000000 in
theorem rmLEq_3_3 (l : Launch) (Z : State) (a0 : Array Value) (hw : ∀ d ∈ tables_1, d.before a0 Z = true) (ws : List Jvm.Cond) (zC : Int32) (GS : Glob Z zC) (d1 : Addr) (d2 : Addr) (k1 : ClassId) (k2 : ClassId) (b0 : Int32) (b1 : Int32) (b2 : Int32) (c0 : Int32) (c1 : Int32) (c2 : Int32) (h0 : Heap) (n0 : Nat) (Z0 : n0 ≤ h0.size) (O0 : Old Z n0 h0) (V1 : Arv Z h0 d1 k1 .byte (3 : Int32) [(.int b0), (.int b1), (.int b2)] (.int (0 : Int32))) (V2 : Arv Z h0 d2 k2 .byte (3 : Int32) [(.int c0), (.int c1), (.int c2)] (.int (0 : Int32))) :
    MetFree l (⟨"java/lang/StringLatin1", "equals", "([B[B)Z"⟩ : MethodName) (head1 (Jvm.Cond.code (⟨"java/lang/StringLatin1", "equals", "([B[B)Z"⟩ : MethodName) jdk_43_method_13_code 3 (some .boolean) :: ws) ({ frames := 0, cells := 0, slots := 0, locals := 0 } : Room)) (fun aa_ UU_ => aa_ = #[(.ref d1), (.ref d2)] ∧ Z.Warmed39 UU_.vm ∧ UU_.heap = h0) (fun _ _ _ _ _ => True) (fun _ UU_ oo_ UV_ => ∃ vv_ LL_, oo_ = .returned vv_ ∧ Q_rmLEq_3_3 Z zC d1 d2 k1 k2 b0 b1 b2 c0 c1 c2 h0 n0 vv_ UV_.heap LL_ ∧ FrameEnd UU_ oo_ UV_ LL_ ({ frames := 0, cells := 0, slots := 0, locals := 0 } : Room).cells ({ frames := 0, cells := 0, slots := 0, locals := 0 } : Room).slots) := by
  refine MetFree.of_bodySF (plainFor_of_name own_pn_java_lang_StringLatin1) hisR ?_
  intro p e s m args below meth c s₁ Bd hml0 hP hK
  obtain ⟨rfl, hZ, hh⟩ := hP
  have hx := Bd.exec
  have hby := Bd.bytes
  have hml : c.maxLocals = 3 := hml0
  have hown : s.vm.findClass "java/lang/StringLatin1" = some m.cls := findClass_of_methodNamed Bd.named
  have hnm := (name_of_methodNamed Bd.named Bd.method).1
  have X0 : Stand p l e ({ frames := 0, cells := 0, slots := 0, locals := 0 } : Room) s m #[(.ref d1), (.ref d2)] below meth c s₁ [] 0 0 := Stand.of_body Bd
  have e0 : s₁.heap = h0 := by rw [← hh, Bd.state]; rfl
  have N0 := Fr.nil n0
  have hn0 : Z.heap.size = n0 := O0.1
  have KT0 : Keep h0 h0 [] := Keep.refl _ _
  refine own_enter (Φ := fun oo_ UV_ => ∃ vv_ LL_, oo_ = .returned vv_ ∧ Q_rmLEq_3_3 Z zC d1 d2 k1 k2 b0 b1 b2 c0 c1 c2 h0 n0 vv_ UV_.heap LL_ ∧ FrameEnd s oo_ UV_ LL_ ({ frames := 0, cells := 0, slots := 0, locals := 0 } : Room).cells ({ frames := 0, cells := 0, slots := 0, locals := 0 } : Room).slots) (own_ef_rmLEq_3_3 m d1 d2) ?_
  refine own_by (T' := s₁) (g' := (mkF m 1 #[.val (.ref d1), .val (.ref d2), .unset] [(.ref d1)])) (fun _ kt_ => XS.aloadN X0.here hx rfl (hb hby own_d13_0) rfl rfl kt_) ?_
  obtain ⟨cl1, Ar1, q1, S1, M1, H1, G1⟩ := id V1
  refine own_by (T' := s₁) (g' := (mkF m 2 #[.val (.ref d1), .val (.ref d2), .unset] [(.int (3 : Int32))])) (fun _ kt_ => X0.arraylength hx (by rw [e0]; exact Ar1.1) (State.isArrayOf_alike hZ.alike Ar1.2.1) (g := (mkF m 1 #[.val (.ref d1), .val (.ref d2), .unset] [(.ref d1)])) rfl rfl (hb hby own_d13_1) _ (by rw [len_of S1 M1]; exact kt_)) ?_
  refine own_by (T' := s₁) (g' := (mkF m 3 #[.val (.ref d1), .val (.ref d2), .unset] [(.ref d2), (.int (3 : Int32))])) (fun _ kt_ => XS.aloadN X0.here hx rfl (hb hby own_d13_2) rfl rfl kt_) ?_
  obtain ⟨cl2, Ar2, q2, S2, M2, H2, G2⟩ := id V2
  refine own_by (T' := s₁) (g' := (mkF m 4 #[.val (.ref d1), .val (.ref d2), .unset] [(.int (3 : Int32)), (.int (3 : Int32))])) (fun _ kt_ => X0.arraylength hx (by rw [e0]; exact Ar2.1) (State.isArrayOf_alike hZ.alike Ar2.2.1) (g := (mkF m 3 #[.val (.ref d1), .val (.ref d2), .unset] [(.ref d2), (.int (3 : Int32))])) rfl rfl (hb hby own_d13_3) _ (by rw [len_of S2 M2]; exact kt_)) ?_
  refine own_by (T' := s₁) (g' := (mkF m 7 #[.val (.ref d1), .val (.ref d2), .unset] [])) (fun _ kt_ => XS.icmpNo X0.here hx rfl (hb hby own_d13_4) rfl (XT.ii_ne_f (by decide)) kt_) ?_
  refine own_by (T' := s₁) (g' := (mkF m 8 #[.val (.ref d1), .val (.ref d2), .unset] [(.int (0 : Int32))])) (fun _ kt_ => XS.iconst X0.here hx rfl (hb hby own_d13_7) kt_) ?_
  refine own_by (T' := s₁) (g' := (mkF m 9 #[.val (.ref d1), .val (.ref d2), .val (.int (0 : Int32))] [])) (fun _ kt_ => XS.istoreN X0.here hx rfl (hb hby own_d13_8) rfl (l' := #[.val (.ref d1), .val (.ref d2), .val (.int (0 : Int32))]) rfl kt_) ?_
  refine own_by (T' := s₁) (g' := (mkF m 10 #[.val (.ref d1), .val (.ref d2), .val (.int (0 : Int32))] [(.int (0 : Int32))])) (fun _ kt_ => XS.iloadN X0.here hx rfl (hb hby own_d13_9) rfl kt_) ?_
  refine own_by (T' := s₁) (g' := (mkF m 11 #[.val (.ref d1), .val (.ref d2), .val (.int (0 : Int32))] [(.ref d1), (.int (0 : Int32))])) (fun _ kt_ => XS.aloadN X0.here hx rfl (hb hby own_d13_10) rfl rfl kt_) ?_
  obtain ⟨cl3, Ar3, q3, S3, M3, H3, G3⟩ := id V1
  refine own_by (T' := s₁) (g' := (mkF m 12 #[.val (.ref d1), .val (.ref d2), .val (.int (0 : Int32))] [(.int (3 : Int32)), (.int (0 : Int32))])) (fun _ kt_ => X0.arraylength hx (by rw [e0]; exact Ar3.1) (State.isArrayOf_alike hZ.alike Ar3.2.1) (g := (mkF m 11 #[.val (.ref d1), .val (.ref d2), .val (.int (0 : Int32))] [(.ref d1), (.int (0 : Int32))])) rfl rfl (hb hby own_d13_11) _ (by rw [len_of S3 M3]; exact kt_)) ?_
  refine own_by (T' := s₁) (g' := (mkF m 15 #[.val (.ref d1), .val (.ref d2), .val (.int (0 : Int32))] [])) (fun _ kt_ => XS.icmpNo X0.here hx rfl (hb hby own_d13_12) rfl (XT.ii_ge_f (by decide)) kt_) ?_
  refine own_by (T' := s₁) (g' := (mkF m 16 #[.val (.ref d1), .val (.ref d2), .val (.int (0 : Int32))] [(.ref d1)])) (fun _ kt_ => XS.aloadN X0.here hx rfl (hb hby own_d13_15) rfl rfl kt_) ?_
  refine own_by (T' := s₁) (g' := (mkF m 17 #[.val (.ref d1), .val (.ref d2), .val (.int (0 : Int32))] [(.int (0 : Int32)), (.ref d1)])) (fun _ kt_ => XS.iloadN X0.here hx rfl (hb hby own_d13_16) rfl kt_) ?_
  obtain ⟨cl4, Ar4, q4, S4, M4, H4, G4⟩ := id V1
  have hin4 : ¬ ((0 : Int32) < 0 ∨ cl4.slots.size ≤ ((0 : Int32)).toNatClampNeg) := inb_of S4 ⟨by decide, by decide⟩
  have hat4 : cl4.slots[((0 : Int32)).toNatClampNeg]? = some (.int b0) := H4.at hin4 rfl
  refine own_by (T' := s₁) (g' := (mkF m 18 #[.val (.ref d1), .val (.ref d2), .val (.int (0 : Int32))] [(.int b0)])) (fun _ kt_ => X0.baloadBytes hx (j := (0 : Int32)) (v := (.int b0)) (by rw [e0]; exact Ar4.1) (State.isArrayOf_alike hZ.alike Ar4.2.1) Ar4.2.2 hin4 hat4 (g := (mkF m 17 #[.val (.ref d1), .val (.ref d2), .val (.int (0 : Int32))] [(.int (0 : Int32)), (.ref d1)])) rfl rfl (hb hby own_d13_17) _ kt_) ?_
  refine own_by (T' := s₁) (g' := (mkF m 19 #[.val (.ref d1), .val (.ref d2), .val (.int (0 : Int32))] [(.ref d2), (.int b0)])) (fun _ kt_ => XS.aloadN X0.here hx rfl (hb hby own_d13_18) rfl rfl kt_) ?_
  refine own_by (T' := s₁) (g' := (mkF m 20 #[.val (.ref d1), .val (.ref d2), .val (.int (0 : Int32))] [(.int (0 : Int32)), (.ref d2), (.int b0)])) (fun _ kt_ => XS.iloadN X0.here hx rfl (hb hby own_d13_19) rfl kt_) ?_
  obtain ⟨cl5, Ar5, q5, S5, M5, H5, G5⟩ := id V2
  have hin5 : ¬ ((0 : Int32) < 0 ∨ cl5.slots.size ≤ ((0 : Int32)).toNatClampNeg) := inb_of S5 ⟨by decide, by decide⟩
  have hat5 : cl5.slots[((0 : Int32)).toNatClampNeg]? = some (.int c0) := H5.at hin5 rfl
  refine own_by (T' := s₁) (g' := (mkF m 21 #[.val (.ref d1), .val (.ref d2), .val (.int (0 : Int32))] [(.int c0), (.int b0)])) (fun _ kt_ => X0.baloadBytes hx (j := (0 : Int32)) (v := (.int c0)) (by rw [e0]; exact Ar5.1) (State.isArrayOf_alike hZ.alike Ar5.2.1) Ar5.2.2 hin5 hat5 (g := (mkF m 20 #[.val (.ref d1), .val (.ref d2), .val (.int (0 : Int32))] [(.int (0 : Int32)), (.ref d2), (.int b0)])) rfl rfl (hb hby own_d13_20) _ kt_) ?_
  by_cases hc6 : b0 = c0
  · refine own_by (T' := s₁) (g' := (mkF m 26 #[.val (.ref d1), .val (.ref d2), .val (.int (0 : Int32))] [])) (fun _ kt_ => XS.icmpYes X0.here hx rfl (pc0 := 21) (pc' := 26) rfl (hb hby own_d13_21) rfl (XT.ii_eq_t hc6) (by decide) (by decide) kt_) ?_
    refine own_by (T' := s₁) (g' := (mkF m 29 #[.val (.ref d1), .val (.ref d2), .val (.int ((0 : Int32) + (1 : Int32)))] [])) (fun _ kt_ => XS.iinc X0.here hx rfl (hb hby own_d13_26) rfl (l' := #[.val (.ref d1), .val (.ref d2), .val (.int ((0 : Int32) + (1 : Int32)))]) rfl kt_) ?_
    rw [show ((0 : Int32) + (1 : Int32)) = (1 : Int32) from by decide]
    refine own_by (T' := s₁) (g' := (mkF m 9 #[.val (.ref d1), .val (.ref d2), .val (.int (1 : Int32))] [])) (fun _ kt_ => XS.goto X0.here hx rfl (pc0 := 29) (pc' := 9) rfl (hb hby own_d13_29) (by decide) (by decide) kt_) ?_
    refine own_by (T' := s₁) (g' := (mkF m 10 #[.val (.ref d1), .val (.ref d2), .val (.int (1 : Int32))] [(.int (1 : Int32))])) (fun _ kt_ => XS.iloadN X0.here hx rfl (hb hby own_d13_9) rfl kt_) ?_
    refine own_by (T' := s₁) (g' := (mkF m 11 #[.val (.ref d1), .val (.ref d2), .val (.int (1 : Int32))] [(.ref d1), (.int (1 : Int32))])) (fun _ kt_ => XS.aloadN X0.here hx rfl (hb hby own_d13_10) rfl rfl kt_) ?_
    obtain ⟨cl7, Ar7, q7, S7, M7, H7, G7⟩ := id V1
    refine own_by (T' := s₁) (g' := (mkF m 12 #[.val (.ref d1), .val (.ref d2), .val (.int (1 : Int32))] [(.int (3 : Int32)), (.int (1 : Int32))])) (fun _ kt_ => X0.arraylength hx (by rw [e0]; exact Ar7.1) (State.isArrayOf_alike hZ.alike Ar7.2.1) (g := (mkF m 11 #[.val (.ref d1), .val (.ref d2), .val (.int (1 : Int32))] [(.ref d1), (.int (1 : Int32))])) rfl rfl (hb hby own_d13_11) _ (by rw [len_of S7 M7]; exact kt_)) ?_
    refine own_by (T' := s₁) (g' := (mkF m 15 #[.val (.ref d1), .val (.ref d2), .val (.int (1 : Int32))] [])) (fun _ kt_ => XS.icmpNo X0.here hx rfl (hb hby own_d13_12) rfl (XT.ii_ge_f (by decide)) kt_) ?_
    refine own_by (T' := s₁) (g' := (mkF m 16 #[.val (.ref d1), .val (.ref d2), .val (.int (1 : Int32))] [(.ref d1)])) (fun _ kt_ => XS.aloadN X0.here hx rfl (hb hby own_d13_15) rfl rfl kt_) ?_
    refine own_by (T' := s₁) (g' := (mkF m 17 #[.val (.ref d1), .val (.ref d2), .val (.int (1 : Int32))] [(.int (1 : Int32)), (.ref d1)])) (fun _ kt_ => XS.iloadN X0.here hx rfl (hb hby own_d13_16) rfl kt_) ?_
    obtain ⟨cl8, Ar8, q8, S8, M8, H8, G8⟩ := id V1
    have hin8 : ¬ ((1 : Int32) < 0 ∨ cl8.slots.size ≤ ((1 : Int32)).toNatClampNeg) := inb_of S8 ⟨by decide, by decide⟩
    have hat8 : cl8.slots[((1 : Int32)).toNatClampNeg]? = some (.int b1) := H8.at hin8 rfl
    refine own_by (T' := s₁) (g' := (mkF m 18 #[.val (.ref d1), .val (.ref d2), .val (.int (1 : Int32))] [(.int b1)])) (fun _ kt_ => X0.baloadBytes hx (j := (1 : Int32)) (v := (.int b1)) (by rw [e0]; exact Ar8.1) (State.isArrayOf_alike hZ.alike Ar8.2.1) Ar8.2.2 hin8 hat8 (g := (mkF m 17 #[.val (.ref d1), .val (.ref d2), .val (.int (1 : Int32))] [(.int (1 : Int32)), (.ref d1)])) rfl rfl (hb hby own_d13_17) _ kt_) ?_
    refine own_by (T' := s₁) (g' := (mkF m 19 #[.val (.ref d1), .val (.ref d2), .val (.int (1 : Int32))] [(.ref d2), (.int b1)])) (fun _ kt_ => XS.aloadN X0.here hx rfl (hb hby own_d13_18) rfl rfl kt_) ?_
    refine own_by (T' := s₁) (g' := (mkF m 20 #[.val (.ref d1), .val (.ref d2), .val (.int (1 : Int32))] [(.int (1 : Int32)), (.ref d2), (.int b1)])) (fun _ kt_ => XS.iloadN X0.here hx rfl (hb hby own_d13_19) rfl kt_) ?_
    obtain ⟨cl9, Ar9, q9, S9, M9, H9, G9⟩ := id V2
    have hin9 : ¬ ((1 : Int32) < 0 ∨ cl9.slots.size ≤ ((1 : Int32)).toNatClampNeg) := inb_of S9 ⟨by decide, by decide⟩
    have hat9 : cl9.slots[((1 : Int32)).toNatClampNeg]? = some (.int c1) := H9.at hin9 rfl
    refine own_by (T' := s₁) (g' := (mkF m 21 #[.val (.ref d1), .val (.ref d2), .val (.int (1 : Int32))] [(.int c1), (.int b1)])) (fun _ kt_ => X0.baloadBytes hx (j := (1 : Int32)) (v := (.int c1)) (by rw [e0]; exact Ar9.1) (State.isArrayOf_alike hZ.alike Ar9.2.1) Ar9.2.2 hin9 hat9 (g := (mkF m 20 #[.val (.ref d1), .val (.ref d2), .val (.int (1 : Int32))] [(.int (1 : Int32)), (.ref d2), (.int b1)])) rfl rfl (hb hby own_d13_20) _ kt_) ?_
    by_cases hc10 : b1 = c1
    · refine own_by (T' := s₁) (g' := (mkF m 26 #[.val (.ref d1), .val (.ref d2), .val (.int (1 : Int32))] [])) (fun _ kt_ => XS.icmpYes X0.here hx rfl (pc0 := 21) (pc' := 26) rfl (hb hby own_d13_21) rfl (XT.ii_eq_t hc10) (by decide) (by decide) kt_) ?_
      refine own_by (T' := s₁) (g' := (mkF m 29 #[.val (.ref d1), .val (.ref d2), .val (.int ((1 : Int32) + (1 : Int32)))] [])) (fun _ kt_ => XS.iinc X0.here hx rfl (hb hby own_d13_26) rfl (l' := #[.val (.ref d1), .val (.ref d2), .val (.int ((1 : Int32) + (1 : Int32)))]) rfl kt_) ?_
      rw [show ((1 : Int32) + (1 : Int32)) = (2 : Int32) from by decide]
      refine own_by (T' := s₁) (g' := (mkF m 9 #[.val (.ref d1), .val (.ref d2), .val (.int (2 : Int32))] [])) (fun _ kt_ => XS.goto X0.here hx rfl (pc0 := 29) (pc' := 9) rfl (hb hby own_d13_29) (by decide) (by decide) kt_) ?_
      refine own_by (T' := s₁) (g' := (mkF m 10 #[.val (.ref d1), .val (.ref d2), .val (.int (2 : Int32))] [(.int (2 : Int32))])) (fun _ kt_ => XS.iloadN X0.here hx rfl (hb hby own_d13_9) rfl kt_) ?_
      refine own_by (T' := s₁) (g' := (mkF m 11 #[.val (.ref d1), .val (.ref d2), .val (.int (2 : Int32))] [(.ref d1), (.int (2 : Int32))])) (fun _ kt_ => XS.aloadN X0.here hx rfl (hb hby own_d13_10) rfl rfl kt_) ?_
      obtain ⟨cl11, Ar11, q11, S11, M11, H11, G11⟩ := id V1
      refine own_by (T' := s₁) (g' := (mkF m 12 #[.val (.ref d1), .val (.ref d2), .val (.int (2 : Int32))] [(.int (3 : Int32)), (.int (2 : Int32))])) (fun _ kt_ => X0.arraylength hx (by rw [e0]; exact Ar11.1) (State.isArrayOf_alike hZ.alike Ar11.2.1) (g := (mkF m 11 #[.val (.ref d1), .val (.ref d2), .val (.int (2 : Int32))] [(.ref d1), (.int (2 : Int32))])) rfl rfl (hb hby own_d13_11) _ (by rw [len_of S11 M11]; exact kt_)) ?_
      refine own_by (T' := s₁) (g' := (mkF m 15 #[.val (.ref d1), .val (.ref d2), .val (.int (2 : Int32))] [])) (fun _ kt_ => XS.icmpNo X0.here hx rfl (hb hby own_d13_12) rfl (XT.ii_ge_f (by decide)) kt_) ?_
      refine own_by (T' := s₁) (g' := (mkF m 16 #[.val (.ref d1), .val (.ref d2), .val (.int (2 : Int32))] [(.ref d1)])) (fun _ kt_ => XS.aloadN X0.here hx rfl (hb hby own_d13_15) rfl rfl kt_) ?_
      refine own_by (T' := s₁) (g' := (mkF m 17 #[.val (.ref d1), .val (.ref d2), .val (.int (2 : Int32))] [(.int (2 : Int32)), (.ref d1)])) (fun _ kt_ => XS.iloadN X0.here hx rfl (hb hby own_d13_16) rfl kt_) ?_
      obtain ⟨cl12, Ar12, q12, S12, M12, H12, G12⟩ := id V1
      have hin12 : ¬ ((2 : Int32) < 0 ∨ cl12.slots.size ≤ ((2 : Int32)).toNatClampNeg) := inb_of S12 ⟨by decide, by decide⟩
      have hat12 : cl12.slots[((2 : Int32)).toNatClampNeg]? = some (.int b2) := H12.at hin12 rfl
      refine own_by (T' := s₁) (g' := (mkF m 18 #[.val (.ref d1), .val (.ref d2), .val (.int (2 : Int32))] [(.int b2)])) (fun _ kt_ => X0.baloadBytes hx (j := (2 : Int32)) (v := (.int b2)) (by rw [e0]; exact Ar12.1) (State.isArrayOf_alike hZ.alike Ar12.2.1) Ar12.2.2 hin12 hat12 (g := (mkF m 17 #[.val (.ref d1), .val (.ref d2), .val (.int (2 : Int32))] [(.int (2 : Int32)), (.ref d1)])) rfl rfl (hb hby own_d13_17) _ kt_) ?_
      refine own_by (T' := s₁) (g' := (mkF m 19 #[.val (.ref d1), .val (.ref d2), .val (.int (2 : Int32))] [(.ref d2), (.int b2)])) (fun _ kt_ => XS.aloadN X0.here hx rfl (hb hby own_d13_18) rfl rfl kt_) ?_
      refine own_by (T' := s₁) (g' := (mkF m 20 #[.val (.ref d1), .val (.ref d2), .val (.int (2 : Int32))] [(.int (2 : Int32)), (.ref d2), (.int b2)])) (fun _ kt_ => XS.iloadN X0.here hx rfl (hb hby own_d13_19) rfl kt_) ?_
      obtain ⟨cl13, Ar13, q13, S13, M13, H13, G13⟩ := id V2
      have hin13 : ¬ ((2 : Int32) < 0 ∨ cl13.slots.size ≤ ((2 : Int32)).toNatClampNeg) := inb_of S13 ⟨by decide, by decide⟩
      have hat13 : cl13.slots[((2 : Int32)).toNatClampNeg]? = some (.int c2) := H13.at hin13 rfl
      refine own_by (T' := s₁) (g' := (mkF m 21 #[.val (.ref d1), .val (.ref d2), .val (.int (2 : Int32))] [(.int c2), (.int b2)])) (fun _ kt_ => X0.baloadBytes hx (j := (2 : Int32)) (v := (.int c2)) (by rw [e0]; exact Ar13.1) (State.isArrayOf_alike hZ.alike Ar13.2.1) Ar13.2.2 hin13 hat13 (g := (mkF m 20 #[.val (.ref d1), .val (.ref d2), .val (.int (2 : Int32))] [(.int (2 : Int32)), (.ref d2), (.int b2)])) rfl rfl (hb hby own_d13_20) _ kt_) ?_
      by_cases hc14 : b2 = c2
      · refine own_by (T' := s₁) (g' := (mkF m 26 #[.val (.ref d1), .val (.ref d2), .val (.int (2 : Int32))] [])) (fun _ kt_ => XS.icmpYes X0.here hx rfl (pc0 := 21) (pc' := 26) rfl (hb hby own_d13_21) rfl (XT.ii_eq_t hc14) (by decide) (by decide) kt_) ?_
        refine own_by (T' := s₁) (g' := (mkF m 29 #[.val (.ref d1), .val (.ref d2), .val (.int ((2 : Int32) + (1 : Int32)))] [])) (fun _ kt_ => XS.iinc X0.here hx rfl (hb hby own_d13_26) rfl (l' := #[.val (.ref d1), .val (.ref d2), .val (.int ((2 : Int32) + (1 : Int32)))]) rfl kt_) ?_
        rw [show ((2 : Int32) + (1 : Int32)) = (3 : Int32) from by decide]
        refine own_by (T' := s₁) (g' := (mkF m 9 #[.val (.ref d1), .val (.ref d2), .val (.int (3 : Int32))] [])) (fun _ kt_ => XS.goto X0.here hx rfl (pc0 := 29) (pc' := 9) rfl (hb hby own_d13_29) (by decide) (by decide) kt_) ?_
        refine own_by (T' := s₁) (g' := (mkF m 10 #[.val (.ref d1), .val (.ref d2), .val (.int (3 : Int32))] [(.int (3 : Int32))])) (fun _ kt_ => XS.iloadN X0.here hx rfl (hb hby own_d13_9) rfl kt_) ?_
        refine own_by (T' := s₁) (g' := (mkF m 11 #[.val (.ref d1), .val (.ref d2), .val (.int (3 : Int32))] [(.ref d1), (.int (3 : Int32))])) (fun _ kt_ => XS.aloadN X0.here hx rfl (hb hby own_d13_10) rfl rfl kt_) ?_
        obtain ⟨cl15, Ar15, q15, S15, M15, H15, G15⟩ := id V1
        refine own_by (T' := s₁) (g' := (mkF m 12 #[.val (.ref d1), .val (.ref d2), .val (.int (3 : Int32))] [(.int (3 : Int32)), (.int (3 : Int32))])) (fun _ kt_ => X0.arraylength hx (by rw [e0]; exact Ar15.1) (State.isArrayOf_alike hZ.alike Ar15.2.1) (g := (mkF m 11 #[.val (.ref d1), .val (.ref d2), .val (.int (3 : Int32))] [(.ref d1), (.int (3 : Int32))])) rfl rfl (hb hby own_d13_11) _ (by rw [len_of S15 M15]; exact kt_)) ?_
        refine own_by (T' := s₁) (g' := (mkF m 32 #[.val (.ref d1), .val (.ref d2), .val (.int (3 : Int32))] [])) (fun _ kt_ => XS.icmpYes X0.here hx rfl (pc0 := 12) (pc' := 32) rfl (hb hby own_d13_12) rfl (XT.ii_ge_t (by decide)) (by decide) (by decide) kt_) ?_
        refine own_by (T' := s₁) (g' := (mkF m 33 #[.val (.ref d1), .val (.ref d2), .val (.int (3 : Int32))] [(.int (1 : Int32))])) (fun _ kt_ => XS.iconst X0.here hx rfl (hb hby own_d13_32) kt_) ?_
        have hn16 : nar .boolean (1 : Int32) = (1 : Int32) := rfl
        have hr17 : (1 : Int32) = (if b0 = c0 then (if b1 = c1 then (if b2 = c2 then (1 : Int32) else (0 : Int32)) else (0 : Int32)) else (0 : Int32)) := by simp [hc6, hc10, hc14]
        obtain ⟨fs18, hr18, hrun18, hended18, hW18, hsame18⟩ := X0.leave (v := some (.int (nar .boolean (1 : Int32)))) (fun h => by rw [Bd.returns] at h; cases h)
        refine ⟨_, _, retN X0 hx (t := .boolean) Bd.returns (by simp) (hb hby own_d13_33) hr18, hrun18, hended18, _, _, rfl, ?_, ⟨_, rfl⟩, hW18, hsame18.mono (by decide) (by decide)⟩
        show Q_rmLEq_3_3 Z zC d1 d2 k1 k2 b0 b1 b2 c0 c1 c2 h0 n0 _ s₁.heap _
        exact ⟨(congrArg (fun z => some (Value.int z)) (hn16.trans hr17)), N0, e0⟩
      · refine own_by (T' := s₁) (g' := (mkF m 24 #[.val (.ref d1), .val (.ref d2), .val (.int (2 : Int32))] [])) (fun _ kt_ => XS.icmpNo X0.here hx rfl (hb hby own_d13_21) rfl (XT.ii_eq_f hc14) kt_) ?_
        refine own_by (T' := s₁) (g' := (mkF m 25 #[.val (.ref d1), .val (.ref d2), .val (.int (2 : Int32))] [(.int (0 : Int32))])) (fun _ kt_ => XS.iconst X0.here hx rfl (hb hby own_d13_24) kt_) ?_
        have hn19 : nar .boolean (0 : Int32) = (0 : Int32) := rfl
        have hr20 : (0 : Int32) = (if b0 = c0 then (if b1 = c1 then (if b2 = c2 then (1 : Int32) else (0 : Int32)) else (0 : Int32)) else (0 : Int32)) := by simp [hc6, hc10, hc14]
        obtain ⟨fs21, hr21, hrun21, hended21, hW21, hsame21⟩ := X0.leave (v := some (.int (nar .boolean (0 : Int32)))) (fun h => by rw [Bd.returns] at h; cases h)
        refine ⟨_, _, retN X0 hx (t := .boolean) Bd.returns (by simp) (hb hby own_d13_25) hr21, hrun21, hended21, _, _, rfl, ?_, ⟨_, rfl⟩, hW21, hsame21.mono (by decide) (by decide)⟩
        show Q_rmLEq_3_3 Z zC d1 d2 k1 k2 b0 b1 b2 c0 c1 c2 h0 n0 _ s₁.heap _
        exact ⟨(congrArg (fun z => some (Value.int z)) (hn19.trans hr20)), N0, e0⟩
    · refine own_by (T' := s₁) (g' := (mkF m 24 #[.val (.ref d1), .val (.ref d2), .val (.int (1 : Int32))] [])) (fun _ kt_ => XS.icmpNo X0.here hx rfl (hb hby own_d13_21) rfl (XT.ii_eq_f hc10) kt_) ?_
      refine own_by (T' := s₁) (g' := (mkF m 25 #[.val (.ref d1), .val (.ref d2), .val (.int (1 : Int32))] [(.int (0 : Int32))])) (fun _ kt_ => XS.iconst X0.here hx rfl (hb hby own_d13_24) kt_) ?_
      have hn22 : nar .boolean (0 : Int32) = (0 : Int32) := rfl
      have hr23 : (0 : Int32) = (if b0 = c0 then (if b1 = c1 then (if b2 = c2 then (1 : Int32) else (0 : Int32)) else (0 : Int32)) else (0 : Int32)) := by simp [hc6, hc10]
      obtain ⟨fs24, hr24, hrun24, hended24, hW24, hsame24⟩ := X0.leave (v := some (.int (nar .boolean (0 : Int32)))) (fun h => by rw [Bd.returns] at h; cases h)
      refine ⟨_, _, retN X0 hx (t := .boolean) Bd.returns (by simp) (hb hby own_d13_25) hr24, hrun24, hended24, _, _, rfl, ?_, ⟨_, rfl⟩, hW24, hsame24.mono (by decide) (by decide)⟩
      show Q_rmLEq_3_3 Z zC d1 d2 k1 k2 b0 b1 b2 c0 c1 c2 h0 n0 _ s₁.heap _
      exact ⟨(congrArg (fun z => some (Value.int z)) (hn22.trans hr23)), N0, e0⟩
  · refine own_by (T' := s₁) (g' := (mkF m 24 #[.val (.ref d1), .val (.ref d2), .val (.int (0 : Int32))] [])) (fun _ kt_ => XS.icmpNo X0.here hx rfl (hb hby own_d13_21) rfl (XT.ii_eq_f hc6) kt_) ?_
    refine own_by (T' := s₁) (g' := (mkF m 25 #[.val (.ref d1), .val (.ref d2), .val (.int (0 : Int32))] [(.int (0 : Int32))])) (fun _ kt_ => XS.iconst X0.here hx rfl (hb hby own_d13_24) kt_) ?_
    have hn25 : nar .boolean (0 : Int32) = (0 : Int32) := rfl
    have hr26 : (0 : Int32) = (if b0 = c0 then (if b1 = c1 then (if b2 = c2 then (1 : Int32) else (0 : Int32)) else (0 : Int32)) else (0 : Int32)) := by simp [hc6]
    obtain ⟨fs27, hr27, hrun27, hended27, hW27, hsame27⟩ := X0.leave (v := some (.int (nar .boolean (0 : Int32)))) (fun h => by rw [Bd.returns] at h; cases h)
    refine ⟨_, _, retN X0 hx (t := .boolean) Bd.returns (by simp) (hb hby own_d13_25) hr27, hrun27, hended27, _, _, rfl, ?_, ⟨_, rfl⟩, hW27, hsame27.mono (by decide) (by decide)⟩
    show Q_rmLEq_3_3 Z zC d1 d2 k1 k2 b0 b1 b2 c0 c1 c2 h0 n0 _ s₁.heap _
    exact ⟨(congrArg (fun z => some (Value.int z)) (hn25.trans hr26)), N0, e0⟩
theorem own_ef_rmSEq_3_3 (m : MethodId) (x0 : Addr) (x1 : Addr) : entryFrame m #[(.ref x0), (.ref x1)] 3 = mkF m 0 #[.val (.ref x0), .val (.ref x1), .unset] [] := by first | (simp [entryFrame, mkF, argsToLocals, Value.category]; done) | rfl
def Q_rmSEq_3_3 (Z : State) (zC : Int32) (x : Addr) (y : Addr) (d1 : Addr) (d2 : Addr) (k1 : ClassId) (k2 : ClassId) (b0 : Int32) (b1 : Int32) (b2 : Int32) (c0 : Int32) (c1 : Int32) (c2 : Int32) (h0 : Heap) (n0 : Nat) (vv_ : Option Value) (hh_ : Heap) (LL_ : List Loc) : Prop := vv_ = some (.int (if b0 = c0 then (if b1 = c1 then (if b2 = c2 then (1 : Int32) else (0 : Int32)) else (0 : Int32)) else (0 : Int32))) ∧ Fr n0 LL_ ∧ hh_ = h0
set_option maxRecDepth 65536 in
set_option maxHeartbeats 40000000 in
theorem rmSEq_3_3 (l : Launch) (Z : State) (a0 : Array Value) (hw : ∀ d ∈ tables_1, d.before a0 Z = true) (ws : List Jvm.Cond) (zC : Int32) (GS : Glob Z zC) (x : Addr) (y : Addr) (d1 : Addr) (d2 : Addr) (k1 : ClassId) (k2 : ClassId) (b0 : Int32) (b1 : Int32) (b2 : Int32) (c0 : Int32) (c1 : Int32) (c2 : Int32) (h0 : Heap) (n0 : Nat) (Z0 : n0 ≤ h0.size) (O0 : Old Z n0 h0) (hxy : x ≠ y) (Ey : Exa Z h0 y "java/lang/String") (Fc1 : Fld Z h0 x "java/lang/String" "coder" "B" (.int (0 : Int32))) (Fc2 : Fld Z h0 y "java/lang/String" "coder" "B" (.int (0 : Int32))) (Fv1 : Fld Z h0 x "java/lang/String" "value" "[B" (.ref d1)) (Fv2 : Fld Z h0 y "java/lang/String" "value" "[B" (.ref d2)) (V1 : Arv Z h0 d1 k1 .byte (3 : Int32) [(.int b0), (.int b1), (.int b2)] (.int (0 : Int32))) (V2 : Arv Z h0 d2 k2 .byte (3 : Int32) [(.int c0), (.int c1), (.int c2)] (.int (0 : Int32))) :
    MetFree l (⟨"java/lang/String", "equals", "(Ljava/lang/Object;)Z"⟩ : MethodName) (head1 (Jvm.Cond.code (⟨"java/lang/String", "equals", "(Ljava/lang/Object;)Z"⟩ : MethodName) jdk_42_method_66_code 3 (some .boolean) :: ws) ({ frames := 1, cells := 0, slots := 0, locals := 14 } : Room)) (fun aa_ UU_ => aa_ = #[(.ref x), (.ref y)] ∧ Z.Warmed39 UU_.vm ∧ UU_.heap = h0) (fun _ _ _ _ _ => True) (fun _ UU_ oo_ UV_ => ∃ vv_ LL_, oo_ = .returned vv_ ∧ Q_rmSEq_3_3 Z zC x y d1 d2 k1 k2 b0 b1 b2 c0 c1 c2 h0 n0 vv_ UV_.heap LL_ ∧ FrameEnd UU_ oo_ UV_ LL_ ({ frames := 1, cells := 0, slots := 0, locals := 14 } : Room).cells ({ frames := 1, cells := 0, slots := 0, locals := 14 } : Room).slots) := by
  refine MetFree.of_bodySF (plainFor_of_name own_pn_java_lang_String) hisR ?_
  intro p e s m args below meth c s₁ Bd hml0 hP hK
  obtain ⟨rfl, hZ, hh⟩ := hP
  have hx := Bd.exec
  have hby := Bd.bytes
  have hml : c.maxLocals = 3 := hml0
  have hown : s.vm.findClass "java/lang/String" = some m.cls := findClass_of_methodNamed Bd.named
  have hnm := (name_of_methodNamed Bd.named Bd.method).1
  have X0 : Stand p l e ({ frames := 1, cells := 0, slots := 0, locals := 14 } : Room) s m #[(.ref x), (.ref y)] below meth c s₁ [] 0 0 := Stand.of_body Bd
  have e0 : s₁.heap = h0 := by rw [← hh, Bd.state]; rfl
  have N0 := Fr.nil n0
  have hn0 : Z.heap.size = n0 := O0.1
  have KT0 : Keep h0 h0 [] := Keep.refl _ _
  refine own_enter (Φ := fun oo_ UV_ => ∃ vv_ LL_, oo_ = .returned vv_ ∧ Q_rmSEq_3_3 Z zC x y d1 d2 k1 k2 b0 b1 b2 c0 c1 c2 h0 n0 vv_ UV_.heap LL_ ∧ FrameEnd s oo_ UV_ LL_ ({ frames := 1, cells := 0, slots := 0, locals := 14 } : Room).cells ({ frames := 1, cells := 0, slots := 0, locals := 14 } : Room).slots) (own_ef_rmSEq_3_3 m x y) ?_
  have ne1 : x ≠ y := hxy
  refine own_by (T' := s₁) (g' := (mkF m 1 #[.val (.ref x), .val (.ref y), .unset] [(.ref x)])) (fun _ kt_ => XS.aloadN X0.here hx rfl (hb hby own_d12_0) rfl rfl kt_) ?_
  refine own_by (T' := s₁) (g' := (mkF m 2 #[.val (.ref x), .val (.ref y), .unset] [(.ref y), (.ref x)])) (fun _ kt_ => XS.aloadN X0.here hx rfl (hb hby own_d12_1) rfl rfl kt_) ?_
  refine own_by (T' := s₁) (g' := (mkF m 7 #[.val (.ref x), .val (.ref y), .unset] [])) (fun _ kt_ => Jvm.RoadKit.acmp (g := (mkF m 2 #[.val (.ref x), .val (.ref y), .unset] [(.ref y), (.ref x)])) X0 hx rfl rfl rfl (pc0 := 2) (pc' := 7) (same := false) rfl (hb hby own_d12_2) rfl (decide_eq_false fun q => ne1 (Value.ref.inj q)) (by decide) (by decide) kt_) ?_
  refine own_by (T' := s₁) (g' := (mkF m 8 #[.val (.ref x), .val (.ref y), .unset] [(.ref y)])) (fun _ kt_ => XS.aloadN X0.here hx rfl (hb hby own_d12_7) rfl rfl kt_) ?_
  obtain ⟨T2, X2, e2, st2⟩ := instY X0 hx hZ hown (hw _ (List.mem_of_getElem? (i := 68) rfl)) e0 (Ins.self Ey) (g := (mkF m 8 #[.val (.ref x), .val (.ref y), .unset] [(.ref y)])) rfl rfl (hb hby own_d12_8)
  refine own_by (T' := T2) (g' := (mkF m 11 #[.val (.ref x), .val (.ref y), .unset] [(.int (1 : Int32))])) st2 ?_
  refine own_by (T' := T2) (g' := (mkF m 14 #[.val (.ref x), .val (.ref y), .unset] [])) (fun _ kt_ => XS.ifNo X2.here hx rfl (hb hby own_d12_11) rfl (XT.i0_eq_f (by decide)) kt_) ?_
  refine own_by (T' := T2) (g' := (mkF m 15 #[.val (.ref x), .val (.ref y), .unset] [(.ref y)])) (fun _ kt_ => XS.aloadN X2.here hx rfl (hb hby own_d12_14) rfl rfl kt_) ?_
  obtain ⟨T3, X3, e3, st3⟩ := castY X2 hx hZ hown (hw _ (List.mem_of_getElem? (i := 68) rfl)) e2 (Ins.self Ey) (g := (mkF m 15 #[.val (.ref x), .val (.ref y), .unset] [(.ref y)])) rfl rfl (hb hby own_d12_15)
  refine own_by (T' := T3) (g' := (mkF m 18 #[.val (.ref x), .val (.ref y), .unset] [(.ref y)])) st3 ?_
  refine own_by (T' := T3) (g' := (mkF m 19 #[.val (.ref x), .val (.ref y), .val (.ref y)] [])) (fun _ kt_ => XS.astoreN X3.here hx rfl (hb hby own_d12_18) rfl rfl (l' := #[.val (.ref x), .val (.ref y), .val (.ref y)]) rfl kt_) ?_
  have f4 := GS.1.ext O0.2
  obtain ⟨T5, X5, e5, st5⟩ := getS2 X3 hx hZ hown (host := "") (Or.inl (hw _ (List.mem_of_getElem? (i := 18) rfl))) Via.refl e3 f4 (g := (mkF m 19 #[.val (.ref x), .val (.ref y), .val (.ref y)] [])) rfl (hb hby own_d12_19)
  refine own_by (T' := T5) (g' := (mkF m 22 #[.val (.ref x), .val (.ref y), .val (.ref y)] [(.int zC)])) st5 ?_
  refine own_by (T' := T5) (g' := (mkF m 25 #[.val (.ref x), .val (.ref y), .val (.ref y)] [])) (fun _ kt_ => XS.ifNo X5.here hx rfl (hb hby own_d12_22) rfl (XT.i0_eq_f GS.2) kt_) ?_
  refine own_by (T' := T5) (g' := (mkF m 26 #[.val (.ref x), .val (.ref y), .val (.ref y)] [(.ref x)])) (fun _ kt_ => XS.aloadN X5.here hx rfl (hb hby own_d12_25) rfl rfl kt_) ?_
  obtain ⟨T6, X6, e6, st6⟩ := getF X5 hx hZ hown (host := "") (Or.inl (hw _ (List.mem_of_getElem? (i := 30) rfl))) Via.refl e5 Fc1 (g := (mkF m 26 #[.val (.ref x), .val (.ref y), .val (.ref y)] [(.ref x)])) rfl rfl (hb hby own_d12_26)
  refine own_by (T' := T6) (g' := (mkF m 29 #[.val (.ref x), .val (.ref y), .val (.ref y)] [(.int (0 : Int32))])) st6 ?_
  refine own_by (T' := T6) (g' := (mkF m 30 #[.val (.ref x), .val (.ref y), .val (.ref y)] [(.ref y), (.int (0 : Int32))])) (fun _ kt_ => XS.aloadN X6.here hx rfl (hb hby own_d12_29) rfl rfl kt_) ?_
  obtain ⟨T7, X7, e7, st7⟩ := getF X6 hx hZ hown (host := "") (Or.inl (hw _ (List.mem_of_getElem? (i := 30) rfl))) Via.refl e6 Fc2 (g := (mkF m 30 #[.val (.ref x), .val (.ref y), .val (.ref y)] [(.ref y), (.int (0 : Int32))])) rfl rfl (hb hby own_d12_30)
  refine own_by (T' := T7) (g' := (mkF m 33 #[.val (.ref x), .val (.ref y), .val (.ref y)] [(.int (0 : Int32)), (.int (0 : Int32))])) st7 ?_
  refine own_by (T' := T7) (g' := (mkF m 36 #[.val (.ref x), .val (.ref y), .val (.ref y)] [])) (fun _ kt_ => XS.icmpNo X7.here hx rfl (hb hby own_d12_33) rfl (XT.ii_ne_f (by decide)) kt_) ?_
  refine own_by (T' := T7) (g' := (mkF m 37 #[.val (.ref x), .val (.ref y), .val (.ref y)] [(.ref x)])) (fun _ kt_ => XS.aloadN X7.here hx rfl (hb hby own_d12_36) rfl rfl kt_) ?_
  obtain ⟨T8, X8, e8, st8⟩ := getF X7 hx hZ hown (host := "") (Or.inl (hw _ (List.mem_of_getElem? (i := 32) rfl))) Via.refl e7 Fv1 (g := (mkF m 37 #[.val (.ref x), .val (.ref y), .val (.ref y)] [(.ref x)])) rfl rfl (hb hby own_d12_37)
  refine own_by (T' := T8) (g' := (mkF m 40 #[.val (.ref x), .val (.ref y), .val (.ref y)] [(.ref d1)])) st8 ?_
  refine own_by (T' := T8) (g' := (mkF m 41 #[.val (.ref x), .val (.ref y), .val (.ref y)] [(.ref y), (.ref d1)])) (fun _ kt_ => XS.aloadN X8.here hx rfl (hb hby own_d12_40) rfl rfl kt_) ?_
  obtain ⟨T9, X9, e9, st9⟩ := getF X8 hx hZ hown (host := "") (Or.inl (hw _ (List.mem_of_getElem? (i := 32) rfl))) Via.refl e8 Fv2 (g := (mkF m 41 #[.val (.ref x), .val (.ref y), .val (.ref y)] [(.ref y), (.ref d1)])) rfl rfl (hb hby own_d12_41)
  refine own_by (T' := T9) (g' := (mkF m 44 #[.val (.ref x), .val (.ref y), .val (.ref y)] [(.ref d2), (.ref d1)])) st9 ?_
  obtain ⟨_, _, ⟨T10, L10, k10, n10⟩, -, X10, ⟨Lc10, hQ10, l10, y10, z10⟩, st10⟩ := Jvm.LawKit.callS X9 hx (y := (⟨"java/lang/StringLatin1", "equals", "([B[B)Z"⟩ : MethodName)) hown (mvT hZ (hw _ (List.mem_of_getElem? (i := 69) rfl))) (mvT hZ (hw _ (List.mem_of_getElem? (i := 70) rfl))) (mvT hZ (hw _ (List.mem_of_getElem? (i := 71) rfl))) (mvT hZ (hw _ (List.mem_of_getElem? (i := 72) rfl))) (by decide) (backOf (W := 0) (rmLEq_3_3 l Z a0 hw [] zC GS d1 d2 k1 k2 b0 b1 b2 c0 c1 c2 h0 n0 (by omega) O0 V1 V2) hZ (hw _ (List.mem_of_getElem? (i := 72) rfl)) (hw _ (List.mem_of_getElem? (i := 71) rfl)) (by decide) (by decide)) (g := (mkF m 44 #[.val (.ref x), .val (.ref y), .val (.ref y)] [(.ref d2), (.ref d1)])) rfl (by rw [hml]; rfl) (argsL := [(.ref d1), (.ref d2)]) (rest := []) (lenOf own_pd_4 rfl) rfl (by show 2 * 0 + _ ≤ _; exact Nat.le_of_eq rfl) (hb hby own_d12_44) (fun _ _ => ⟨rfl, e9, (by decide : 0 + 0 ≤ _), (by decide : 0 + 0 ≤ _)⟩)
  dsimp only [Pt.U, Pt.locs, Pt.cells, Pt.slots] at X10 l10 y10 z10 st10 hQ10
  subst l10 y10 z10
  obtain ⟨rfl, N10q, e10⟩ := hQ10
  have N11 := Fr.app N0 N10q
  refine own_by (T' := T10) (g' := (mkF m 47 #[.val (.ref x), .val (.ref y), .val (.ref y)] [(.int (if b0 = c0 then (if b1 = c1 then (if b2 = c2 then (1 : Int32) else (0 : Int32)) else (0 : Int32)) else (0 : Int32)))])) st10 ?_
  by_cases hc12 : (if b0 = c0 then (if b1 = c1 then (if b2 = c2 then (1 : Int32) else (0 : Int32)) else (0 : Int32)) else (0 : Int32)) = (0 : Int32)
  · refine own_by (T' := T10) (g' := (mkF m 54 #[.val (.ref x), .val (.ref y), .val (.ref y)] [])) (fun _ kt_ => XS.ifYes X10.here hx rfl (pc0 := 47) (pc' := 54) rfl (hb hby own_d12_47) rfl (XT.i0_eq_t hc12) (by decide) (by decide) kt_) ?_
    refine own_by (T' := T10) (g' := (mkF m 55 #[.val (.ref x), .val (.ref y), .val (.ref y)] [(.int (0 : Int32))])) (fun _ kt_ => XS.iconst X10.here hx rfl (hb hby own_d12_54) kt_) ?_
    have hn13 : nar .boolean (0 : Int32) = (0 : Int32) := rfl
    have hr14 : (0 : Int32) = (if b0 = c0 then (if b1 = c1 then (if b2 = c2 then (1 : Int32) else (0 : Int32)) else (0 : Int32)) else (0 : Int32)) := by first | rfl | (revert hc12; (repeat' split) <;> simp_all) | (revert hc12; simp)
    obtain ⟨fs15, hr15, hrun15, hended15, hW15, hsame15⟩ := X10.leave (v := some (.int (nar .boolean (0 : Int32)))) (fun h => by rw [Bd.returns] at h; cases h)
    refine ⟨_, _, retN X10 hx (t := .boolean) Bd.returns (by simp) (hb hby own_d12_55) hr15, hrun15, hended15, _, _, rfl, ?_, ⟨_, rfl⟩, hW15, hsame15.mono (by decide) (by decide)⟩
    show Q_rmSEq_3_3 Z zC x y d1 d2 k1 k2 b0 b1 b2 c0 c1 c2 h0 n0 _ T10.heap _
    exact ⟨(congrArg (fun z => some (Value.int z)) (hn13.trans hr14)), N11, e10⟩
  · refine own_by (T' := T10) (g' := (mkF m 50 #[.val (.ref x), .val (.ref y), .val (.ref y)] [])) (fun _ kt_ => XS.ifNo X10.here hx rfl (hb hby own_d12_47) rfl (XT.i0_eq_f hc12) kt_) ?_
    refine own_by (T' := T10) (g' := (mkF m 51 #[.val (.ref x), .val (.ref y), .val (.ref y)] [(.int (1 : Int32))])) (fun _ kt_ => XS.iconst X10.here hx rfl (hb hby own_d12_50) kt_) ?_
    refine own_by (T' := T10) (g' := (mkF m 55 #[.val (.ref x), .val (.ref y), .val (.ref y)] [(.int (1 : Int32))])) (fun _ kt_ => XS.goto X10.here hx rfl (pc0 := 51) (pc' := 55) rfl (hb hby own_d12_51) (by decide) (by decide) kt_) ?_
    have hn16 : nar .boolean (1 : Int32) = (1 : Int32) := rfl
    have hr17 : (1 : Int32) = (if b0 = c0 then (if b1 = c1 then (if b2 = c2 then (1 : Int32) else (0 : Int32)) else (0 : Int32)) else (0 : Int32)) := by first | rfl | (revert hc12; (repeat' split) <;> simp_all) | (revert hc12; simp)
    obtain ⟨fs18, hr18, hrun18, hended18, hW18, hsame18⟩ := X10.leave (v := some (.int (nar .boolean (1 : Int32)))) (fun h => by rw [Bd.returns] at h; cases h)
    refine ⟨_, _, retN X10 hx (t := .boolean) Bd.returns (by simp) (hb hby own_d12_55) hr18, hrun18, hended18, _, _, rfl, ?_, ⟨_, rfl⟩, hW18, hsame18.mono (by decide) (by decide)⟩
    show Q_rmSEq_3_3 Z zC x y d1 d2 k1 k2 b0 b1 b2 c0 c1 c2 h0 n0 _ T10.heap _
    exact ⟨(congrArg (fun z => some (Value.int z)) (hn16.trans hr17)), N11, e10⟩
theorem own_d12_5 : decode jdk_42_method_66_code 5 = .ok (.iconst 1, 1) := by decide +kernel
theorem own_d12_6 : decode jdk_42_method_66_code 6 = .ok (.ireturn, 1) := by decide +kernel
theorem own_ef_rmSEq_s (m : MethodId) (x0 : Addr) (x1 : Addr) : entryFrame m #[(.ref x0), (.ref x1)] 3 = mkF m 0 #[.val (.ref x0), .val (.ref x1), .unset] [] := by first | (simp [entryFrame, mkF, argsToLocals, Value.category]; done) | rfl
def Q_rmSEq_s (Z : State) (zC : Int32) (x : Addr) (h0 : Heap) (n0 : Nat) (vv_ : Option Value) (hh_ : Heap) (LL_ : List Loc) : Prop := vv_ = some (.int (1 : Int32)) ∧ Fr n0 LL_ ∧ hh_ = h0
set_option maxRecDepth 65536 in
set_option maxHeartbeats 40000000 in
theorem rmSEq_s (l : Launch) (Z : State) (a0 : Array Value) (hw : ∀ d ∈ tables_1, d.before a0 Z = true) (ws : List Jvm.Cond) (zC : Int32) (GS : Glob Z zC) (x : Addr) (h0 : Heap) (n0 : Nat) (Z0 : n0 ≤ h0.size) (O0 : Old Z n0 h0) :
    MetFree l (⟨"java/lang/String", "equals", "(Ljava/lang/Object;)Z"⟩ : MethodName) (head1 (Jvm.Cond.code (⟨"java/lang/String", "equals", "(Ljava/lang/Object;)Z"⟩ : MethodName) jdk_42_method_66_code 3 (some .boolean) :: ws) ({ frames := 0, cells := 0, slots := 0, locals := 0 } : Room)) (fun aa_ UU_ => aa_ = #[(.ref x), (.ref x)] ∧ Z.Warmed39 UU_.vm ∧ UU_.heap = h0) (fun _ _ _ _ _ => True) (fun _ UU_ oo_ UV_ => ∃ vv_ LL_, oo_ = .returned vv_ ∧ Q_rmSEq_s Z zC x h0 n0 vv_ UV_.heap LL_ ∧ FrameEnd UU_ oo_ UV_ LL_ ({ frames := 0, cells := 0, slots := 0, locals := 0 } : Room).cells ({ frames := 0, cells := 0, slots := 0, locals := 0 } : Room).slots) := by
  refine MetFree.of_bodySF (plainFor_of_name own_pn_java_lang_String) hisR ?_
  intro p e s m args below meth c s₁ Bd hml0 hP hK
  obtain ⟨rfl, hZ, hh⟩ := hP
  have hx := Bd.exec
  have hby := Bd.bytes
  have hml : c.maxLocals = 3 := hml0
  have hown : s.vm.findClass "java/lang/String" = some m.cls := findClass_of_methodNamed Bd.named
  have hnm := (name_of_methodNamed Bd.named Bd.method).1
  have X0 : Stand p l e ({ frames := 0, cells := 0, slots := 0, locals := 0 } : Room) s m #[(.ref x), (.ref x)] below meth c s₁ [] 0 0 := Stand.of_body Bd
  have e0 : s₁.heap = h0 := by rw [← hh, Bd.state]; rfl
  have N0 := Fr.nil n0
  have hn0 : Z.heap.size = n0 := O0.1
  have KT0 : Keep h0 h0 [] := Keep.refl _ _
  refine own_enter (Φ := fun oo_ UV_ => ∃ vv_ LL_, oo_ = .returned vv_ ∧ Q_rmSEq_s Z zC x h0 n0 vv_ UV_.heap LL_ ∧ FrameEnd s oo_ UV_ LL_ ({ frames := 0, cells := 0, slots := 0, locals := 0 } : Room).cells ({ frames := 0, cells := 0, slots := 0, locals := 0 } : Room).slots) (own_ef_rmSEq_s m x x) ?_
  refine own_by (T' := s₁) (g' := (mkF m 1 #[.val (.ref x), .val (.ref x), .unset] [(.ref x)])) (fun _ kt_ => XS.aloadN X0.here hx rfl (hb hby own_d12_0) rfl rfl kt_) ?_
  refine own_by (T' := s₁) (g' := (mkF m 2 #[.val (.ref x), .val (.ref x), .unset] [(.ref x), (.ref x)])) (fun _ kt_ => XS.aloadN X0.here hx rfl (hb hby own_d12_1) rfl rfl kt_) ?_
  refine own_by (T' := s₁) (g' := (mkF m 5 #[.val (.ref x), .val (.ref x), .unset] [])) (fun _ kt_ => Jvm.RoadKit.acmp (g := (mkF m 2 #[.val (.ref x), .val (.ref x), .unset] [(.ref x), (.ref x)])) X0 hx rfl rfl rfl (pc0 := 2) (pc' := 5) (same := true) rfl (hb hby own_d12_2) rfl (decide_eq_true rfl) (by decide) (by decide) kt_) ?_
  refine own_by (T' := s₁) (g' := (mkF m 6 #[.val (.ref x), .val (.ref x), .unset] [(.int (1 : Int32))])) (fun _ kt_ => XS.iconst X0.here hx rfl (hb hby own_d12_5) kt_) ?_
  have hn1 : nar .boolean (1 : Int32) = (1 : Int32) := rfl
  obtain ⟨fs2, hr2, hrun2, hended2, hW2, hsame2⟩ := X0.leave (v := some (.int (nar .boolean (1 : Int32)))) (fun h => by rw [Bd.returns] at h; cases h)
  refine ⟨_, _, retN X0 hx (t := .boolean) Bd.returns (by simp) (hb hby own_d12_6) hr2, hrun2, hended2, _, _, rfl, ?_, ⟨_, rfl⟩, hW2, hsame2.mono (by decide) (by decide)⟩
  show Q_rmSEq_s Z zC x h0 n0 _ s₁.heap _
  exact ⟨(congrArg (fun z => some (Value.int z)) hn1), N0, e0⟩
theorem own_d9_0 : decode jdk_31_method_11_code 0 = .ok (.aload_n 0, 1) := by decide +kernel
theorem own_d9_1 : decode jdk_31_method_11_code 1 = .ok (.ifnonnull 12, 3) := by decide +kernel
theorem own_d9_13 : decode jdk_31_method_11_code 13 = .ok (.aload_n 0, 1) := by decide +kernel
theorem own_d9_14 : decode jdk_31_method_11_code 14 = .ok (.areturn, 1) := by decide +kernel
theorem own_pn_java_util_Objects : plainName "java/util/Objects" = true := by first | (simp [plainName, overriddenIn]; done) | decide +kernel
theorem own_ef_rmRnn (m : MethodId) (x0 : Addr) (x1 : Addr) : entryFrame m #[(.ref x0), (.ref x1)] 2 = mkF m 0 #[.val (.ref x0), .val (.ref x1)] [] := by first | (simp [entryFrame, mkF, argsToLocals, Value.category]; done) | rfl
def Q_rmRnn (Z : State) (zC : Int32) (a : Addr) (b : Addr) (h0 : Heap) (n0 : Nat) (vv_ : Option Value) (hh_ : Heap) (LL_ : List Loc) : Prop := vv_ = some (.ref a) ∧ Fr n0 LL_ ∧ hh_ = h0
set_option maxRecDepth 65536 in
set_option maxHeartbeats 40000000 in
theorem rmRnn (l : Launch) (Z : State) (a0 : Array Value) (hw : ∀ d ∈ tables_1, d.before a0 Z = true) (ws : List Jvm.Cond) (zC : Int32) (GS : Glob Z zC) (a : Addr) (b : Addr) (h0 : Heap) (n0 : Nat) (Z0 : n0 ≤ h0.size) (O0 : Old Z n0 h0) :
    MetFree l (⟨"java/util/Objects", "requireNonNull", "(Ljava/lang/Object;Ljava/lang/String;)Ljava/lang/Object;"⟩ : MethodName) (head1 (Jvm.Cond.code (⟨"java/util/Objects", "requireNonNull", "(Ljava/lang/Object;Ljava/lang/String;)Ljava/lang/Object;"⟩ : MethodName) jdk_31_method_11_code 2 (some (.object "java/lang/Object")) :: ws) ({ frames := 0, cells := 0, slots := 0, locals := 0 } : Room)) (fun aa_ UU_ => aa_ = #[(.ref a), (.ref b)] ∧ Z.Warmed39 UU_.vm ∧ UU_.heap = h0) (fun _ _ _ _ _ => True) (fun _ UU_ oo_ UV_ => ∃ vv_ LL_, oo_ = .returned vv_ ∧ Q_rmRnn Z zC a b h0 n0 vv_ UV_.heap LL_ ∧ FrameEnd UU_ oo_ UV_ LL_ ({ frames := 0, cells := 0, slots := 0, locals := 0 } : Room).cells ({ frames := 0, cells := 0, slots := 0, locals := 0 } : Room).slots) := by
  refine MetFree.of_bodySF (plainFor_of_name own_pn_java_util_Objects) hisR ?_
  intro p e s m args below meth c s₁ Bd hml0 hP hK
  obtain ⟨rfl, hZ, hh⟩ := hP
  have hx := Bd.exec
  have hby := Bd.bytes
  have hml : c.maxLocals = 2 := hml0
  have hown : s.vm.findClass "java/util/Objects" = some m.cls := findClass_of_methodNamed Bd.named
  have hnm := (name_of_methodNamed Bd.named Bd.method).1
  have X0 : Stand p l e ({ frames := 0, cells := 0, slots := 0, locals := 0 } : Room) s m #[(.ref a), (.ref b)] below meth c s₁ [] 0 0 := Stand.of_body Bd
  have e0 : s₁.heap = h0 := by rw [← hh, Bd.state]; rfl
  have N0 := Fr.nil n0
  have hn0 : Z.heap.size = n0 := O0.1
  have KT0 : Keep h0 h0 [] := Keep.refl _ _
  refine own_enter (Φ := fun oo_ UV_ => ∃ vv_ LL_, oo_ = .returned vv_ ∧ Q_rmRnn Z zC a b h0 n0 vv_ UV_.heap LL_ ∧ FrameEnd s oo_ UV_ LL_ ({ frames := 0, cells := 0, slots := 0, locals := 0 } : Room).cells ({ frames := 0, cells := 0, slots := 0, locals := 0 } : Room).slots) (own_ef_rmRnn m a b) ?_
  refine own_by (T' := s₁) (g' := (mkF m 1 #[.val (.ref a), .val (.ref b)] [(.ref a)])) (fun _ kt_ => XS.aloadN X0.here hx rfl (hb hby own_d9_0) rfl rfl kt_) ?_
  refine own_by (T' := s₁) (g' := (mkF m 13 #[.val (.ref a), .val (.ref b)] [])) (fun _ kt_ => XS.ifnonnullYes X0.here hx rfl (pc0 := 1) (pc' := 13) rfl (hb hby own_d9_1) rfl (by decide) (by decide) kt_) ?_
  refine own_by (T' := s₁) (g' := (mkF m 14 #[.val (.ref a), .val (.ref b)] [(.ref a)])) (fun _ kt_ => XS.aloadN X0.here hx rfl (hb hby own_d9_13) rfl rfl kt_) ?_
  obtain ⟨fs1, hr1, hrun1, hended1, hW1, hsame1⟩ := X0.leave (v := some (.ref a)) (fun h => by rw [Bd.returns] at h; cases h)
  refine ⟨_, _, retOut X0 hx (t := (.object "java/lang/Object")) Bd.returns rfl (Or.inr (Or.inr (Or.inr (Or.inr ⟨rfl, rfl, rfl⟩)))) (hb hby own_d9_14) hr1, hrun1, hended1, _, _, rfl, ?_, ⟨_, rfl⟩, hW1, hsame1.mono (by decide) (by decide)⟩
  show Q_rmRnn Z zC a b h0 n0 _ s₁.heap _
  exact ⟨rfl, N0, e0⟩
theorem own_d10_0 : decode jdk_42_method_55_code 0 = .ok (.aload_n 0, 1) := by decide +kernel
theorem own_d10_1 : decode jdk_42_method_55_code 1 = .ok (.getfield 9, 3) := by decide +kernel
theorem own_d10_4 : decode jdk_42_method_55_code 4 = .ok (.arraylength, 1) := by decide +kernel
theorem own_d10_5 : decode jdk_42_method_55_code 5 = .ok (.ifCond .ne 7, 3) := by decide +kernel
theorem own_d10_12 : decode jdk_42_method_55_code 12 = .ok (.iconst 0, 1) := by decide +kernel
theorem own_d10_13 : decode jdk_42_method_55_code 13 = .ok (.ireturn, 1) := by decide +kernel
theorem own_ef_rmEmp_1 (m : MethodId) (x0 : Addr) : entryFrame m #[(.ref x0)] 1 = mkF m 0 #[.val (.ref x0)] [] := by first | (simp [entryFrame, mkF, argsToLocals, Value.category]; done) | rfl
def Q_rmEmp_1 (Z : State) (zC : Int32) (x : Addr) (t : Addr) (kB : ClassId) (b0 : Int32) (h0 : Heap) (n0 : Nat) (vv_ : Option Value) (hh_ : Heap) (LL_ : List Loc) : Prop := vv_ = some (.int (0 : Int32)) ∧ Fr n0 LL_ ∧ hh_ = h0
set_option maxRecDepth 65536 in
set_option maxHeartbeats 40000000 in
theorem rmEmp_1 (l : Launch) (Z : State) (a0 : Array Value) (hw : ∀ d ∈ tables_1, d.before a0 Z = true) (ws : List Jvm.Cond) (zC : Int32) (GS : Glob Z zC) (x : Addr) (t : Addr) (kB : ClassId) (b0 : Int32) (h0 : Heap) (n0 : Nat) (Z0 : n0 ≤ h0.size) (O0 : Old Z n0 h0) (Fv : Fld Z h0 x "java/lang/String" "value" "[B" (.ref t)) (Vt : Arv Z h0 t kB .byte (1 : Int32) [(.int b0)] (.int (0 : Int32))) :
    MetFree l (⟨"java/lang/String", "isEmpty", "()Z"⟩ : MethodName) (head1 (Jvm.Cond.code (⟨"java/lang/String", "isEmpty", "()Z"⟩ : MethodName) jdk_42_method_55_code 1 (some .boolean) :: ws) ({ frames := 0, cells := 0, slots := 0, locals := 0 } : Room)) (fun aa_ UU_ => aa_ = #[(.ref x)] ∧ Z.Warmed39 UU_.vm ∧ UU_.heap = h0) (fun _ _ _ _ _ => True) (fun _ UU_ oo_ UV_ => ∃ vv_ LL_, oo_ = .returned vv_ ∧ Q_rmEmp_1 Z zC x t kB b0 h0 n0 vv_ UV_.heap LL_ ∧ FrameEnd UU_ oo_ UV_ LL_ ({ frames := 0, cells := 0, slots := 0, locals := 0 } : Room).cells ({ frames := 0, cells := 0, slots := 0, locals := 0 } : Room).slots) := by
  refine MetFree.of_bodySF (plainFor_of_name own_pn_java_lang_String) hisR ?_
  intro p e s m args below meth c s₁ Bd hml0 hP hK
  obtain ⟨rfl, hZ, hh⟩ := hP
  have hx := Bd.exec
  have hby := Bd.bytes
  have hml : c.maxLocals = 1 := hml0
  have hown : s.vm.findClass "java/lang/String" = some m.cls := findClass_of_methodNamed Bd.named
  have hnm := (name_of_methodNamed Bd.named Bd.method).1
  have X0 : Stand p l e ({ frames := 0, cells := 0, slots := 0, locals := 0 } : Room) s m #[(.ref x)] below meth c s₁ [] 0 0 := Stand.of_body Bd
  have e0 : s₁.heap = h0 := by rw [← hh, Bd.state]; rfl
  have N0 := Fr.nil n0
  have hn0 : Z.heap.size = n0 := O0.1
  have KT0 : Keep h0 h0 [] := Keep.refl _ _
  refine own_enter (Φ := fun oo_ UV_ => ∃ vv_ LL_, oo_ = .returned vv_ ∧ Q_rmEmp_1 Z zC x t kB b0 h0 n0 vv_ UV_.heap LL_ ∧ FrameEnd s oo_ UV_ LL_ ({ frames := 0, cells := 0, slots := 0, locals := 0 } : Room).cells ({ frames := 0, cells := 0, slots := 0, locals := 0 } : Room).slots) (own_ef_rmEmp_1 m x) ?_
  refine own_by (T' := s₁) (g' := (mkF m 1 #[.val (.ref x)] [(.ref x)])) (fun _ kt_ => XS.aloadN X0.here hx rfl (hb hby own_d10_0) rfl rfl kt_) ?_
  obtain ⟨T1, X1, e1, st1⟩ := getF X0 hx hZ hown (host := "") (Or.inl (hw _ (List.mem_of_getElem? (i := 32) rfl))) Via.refl e0 Fv (g := (mkF m 1 #[.val (.ref x)] [(.ref x)])) rfl rfl (hb hby own_d10_1)
  refine own_by (T' := T1) (g' := (mkF m 4 #[.val (.ref x)] [(.ref t)])) st1 ?_
  obtain ⟨cl2, Ar2, q2, S2, M2, H2, G2⟩ := id Vt
  refine own_by (T' := T1) (g' := (mkF m 5 #[.val (.ref x)] [(.int (1 : Int32))])) (fun _ kt_ => X1.arraylength hx (by rw [e1]; exact Ar2.1) (State.isArrayOf_alike hZ.alike Ar2.2.1) (g := (mkF m 4 #[.val (.ref x)] [(.ref t)])) rfl rfl (hb hby own_d10_4) _ (by rw [len_of S2 M2]; exact kt_)) ?_
  refine own_by (T' := T1) (g' := (mkF m 12 #[.val (.ref x)] [])) (fun _ kt_ => XS.ifYes X1.here hx rfl (pc0 := 5) (pc' := 12) rfl (hb hby own_d10_5) rfl (XT.i0_ne_t (by decide)) (by decide) (by decide) kt_) ?_
  refine own_by (T' := T1) (g' := (mkF m 13 #[.val (.ref x)] [(.int (0 : Int32))])) (fun _ kt_ => XS.iconst X1.here hx rfl (hb hby own_d10_12) kt_) ?_
  have hn3 : nar .boolean (0 : Int32) = (0 : Int32) := rfl
  obtain ⟨fs4, hr4, hrun4, hended4, hW4, hsame4⟩ := X1.leave (v := some (.int (nar .boolean (0 : Int32)))) (fun h => by rw [Bd.returns] at h; cases h)
  refine ⟨_, _, retN X1 hx (t := .boolean) Bd.returns (by simp) (hb hby own_d10_13) hr4, hrun4, hended4, _, _, rfl, ?_, ⟨_, rfl⟩, hW4, hsame4.mono (by decide) (by decide)⟩
  show Q_rmEmp_1 Z zC x t kB b0 h0 n0 _ T1.heap _
  exact ⟨(congrArg (fun z => some (Value.int z)) hn3), N0, e1⟩
theorem own_pd_5 : parseMethodDescriptor "(Ljava/lang/Object;Ljava/lang/String;)Ljava/lang/Object;" = some ⟨[(.object "java/lang/Object"), (.object "java/lang/String")], some (.object "java/lang/Object")⟩ := by decide +kernel
theorem own_pd_6 : parseMethodDescriptor "()Z" = some ⟨[], some .boolean⟩ := by decide +kernel
theorem own_d8_0 : decode prog_21_method_1_code 0 = .ok (.aload_n 0, 1) := by decide +kernel
theorem own_d8_1 : decode prog_21_method_1_code 1 = .ok (.invokespecial 1, 3) := by decide +kernel
theorem own_d8_4 : decode prog_21_method_1_code 4 = .ok (.aload_n 1, 1) := by decide +kernel
theorem own_d8_5 : decode prog_21_method_1_code 5 = .ok (.ldc 7, 2) := by decide +kernel
theorem own_d8_7 : decode prog_21_method_1_code 7 = .ok (.invokestatic 9, 3) := by decide +kernel
theorem own_d8_10 : decode prog_21_method_1_code 10 = .ok (.checkcast 15, 3) := by decide +kernel
theorem own_d8_13 : decode prog_21_method_1_code 13 = .ok (.invokevirtual 17, 3) := by decide +kernel
theorem own_d8_16 : decode prog_21_method_1_code 16 = .ok (.ifCond .eq 13, 3) := by decide +kernel
theorem own_d8_29 : decode prog_21_method_1_code 29 = .ok (.aload_n 0, 1) := by decide +kernel
theorem own_d8_30 : decode prog_21_method_1_code 30 = .ok (.aload_n 1, 1) := by decide +kernel
theorem own_d8_31 : decode prog_21_method_1_code 31 = .ok (.putfield 28, 3) := by decide +kernel
theorem own_d8_34 : decode prog_21_method_1_code 34 = .ok (.return_, 1) := by decide +kernel
theorem own_pn_com_example_dependency_wiring_dependencywiring_BeanNameReference : plainName "com/example/dependency_wiring/dependencywiring/BeanNameReference" = true := by first | (simp [plainName, overriddenIn]; done) | decide +kernel
theorem own_ef_rmBI_1 (m : MethodId) (x0 : Addr) (x1 : Addr) : entryFrame m #[(.ref x0), (.ref x1)] 2 = mkF m 0 #[.val (.ref x0), .val (.ref x1)] [] := by first | (simp [entryFrame, mkF, argsToLocals, Value.category]; done) | rfl
def Q_rmBI_1 (Z : State) (zC : Int32) (a : Addr) (x : Addr) (t : Addr) (kB : ClassId) (b0 : Int32) (h0 : Heap) (n0 : Nat) (vv_ : Option Value) (hh_ : Heap) (LL_ : List Loc) : Prop := vv_ = none ∧ Fr n0 LL_ ∧ Keep h0 hh_ [a] ∧ Fld Z hh_ a "com/example/dependency_wiring/dependencywiring/BeanNameReference" "beanName" "Ljava/lang/String;" (.ref x)
set_option maxRecDepth 65536 in
set_option maxHeartbeats 40000000 in
theorem rmBI_1 (l : Launch) (Z : State) (a0 : Array Value) (hw : ∀ d ∈ tables_1, d.before a0 Z = true) (ws : List Jvm.Cond) (zC : Int32) (GS : Glob Z zC) (a : Addr) (x : Addr) (t : Addr) (kB : ClassId) (b0 : Int32) (h0 : Heap) (n0 : Nat) (Z0 : n0 ≤ h0.size) (O0 : Old Z n0 h0) (E_a : Exa Z h0 a "com/example/dependency_wiring/dependencywiring/BeanNameReference") (g_a : n0 ≤ a) (E_x : Exa Z h0 x "java/lang/String") (F_a : Fld Z h0 a "com/example/dependency_wiring/dependencywiring/BeanNameReference" "beanName" "Ljava/lang/String;" .null) (Fv : Fld Z h0 x "java/lang/String" "value" "[B" (.ref t)) (Vt : Arv Z h0 t kB .byte (1 : Int32) [(.int b0)] (.int (0 : Int32))) :
    MetFree l (⟨"com/example/dependency_wiring/dependencywiring/BeanNameReference", "<init>", "(Ljava/lang/String;)V"⟩ : MethodName) (head1 (Jvm.Cond.code (⟨"com/example/dependency_wiring/dependencywiring/BeanNameReference", "<init>", "(Ljava/lang/String;)V"⟩ : MethodName) prog_21_method_1_code 2 none :: ws) ({ frames := 1, cells := 2, slots := 36, locals := 13 } : Room)) (fun aa_ UU_ => aa_ = #[(.ref a), (.ref x)] ∧ Z.Warmed39 UU_.vm ∧ UU_.heap = h0) (fun _ _ _ _ _ => True) (fun _ UU_ oo_ UV_ => ∃ vv_ LL_, oo_ = .returned vv_ ∧ Q_rmBI_1 Z zC a x t kB b0 h0 n0 vv_ UV_.heap LL_ ∧ ReturnedEndW UU_ oo_ UV_ LL_ ({ frames := 1, cells := 2, slots := 36, locals := 13 } : Room).cells ({ frames := 1, cells := 2, slots := 36, locals := 13 } : Room).slots) := by
  refine MetFree.of_bodySF (plainFor_of_name own_pn_com_example_dependency_wiring_dependencywiring_BeanNameReference) hisR ?_
  intro p e s m args below meth c s₁ Bd hml0 hP hK
  obtain ⟨rfl, hZ, hh⟩ := hP
  have hx := Bd.exec
  have hby := Bd.bytes
  have hml : c.maxLocals = 2 := hml0
  have hown : s.vm.findClass "com/example/dependency_wiring/dependencywiring/BeanNameReference" = some m.cls := findClass_of_methodNamed Bd.named
  have hnm := (name_of_methodNamed Bd.named Bd.method).1
  have X0 : Stand p l e ({ frames := 1, cells := 2, slots := 36, locals := 13 } : Room) (s.setVm s.vm) m #[(.ref a), (.ref x)] below meth c s₁ [] 0 0 := Stand.of_body Bd
  have e0 : s₁.heap = h0 := by rw [← hh, Bd.state]; rfl
  have N0 := Fr.nil n0
  have hn0 : Z.heap.size = n0 := O0.1
  have KT0 : Keep h0 h0 [a] := Keep.refl _ _
  have hS0 : s.Since s.vm h0.size := (State.WarmedH.refl s).since _
  refine own_enter (Φ := fun oo_ UV_ => ∃ vv_ LL_, oo_ = .returned vv_ ∧ Q_rmBI_1 Z zC a x t kB b0 h0 n0 vv_ UV_.heap LL_ ∧ ReturnedEndW s oo_ UV_ LL_ ({ frames := 1, cells := 2, slots := 36, locals := 13 } : Room).cells ({ frames := 1, cells := 2, slots := 36, locals := 13 } : Room).slots) (own_ef_rmBI_1 m a x) ?_
  refine own_by (T' := s₁) (g' := (mkF m 1 #[.val (.ref a), .val (.ref x)] [(.ref a)])) (fun _ kt_ => XS.aloadN X0.here hx rfl (hb hby own_d8_0) rfl rfl kt_) ?_
  obtain ⟨T1, X1, e1, st1⟩ := initO X0 hx hZ hown (hw _ (List.mem_of_getElem? (i := 40) rfl)) (hw _ (List.mem_of_getElem? (i := 16) rfl)) (hw _ (List.mem_of_getElem? (i := 17) rfl)) e0 (g := (mkF m 1 #[.val (.ref a), .val (.ref x)] [(.ref a)])) rfl (by rw [hml]; rfl) rfl (hb hby own_d8_1) (by decide) (W := 0) (by show 2 * 0 + _ ≤ _; exact Nat.le_of_eq rfl) (by decide)
  refine own_by (T' := T1) (g' := (mkF m 4 #[.val (.ref a), .val (.ref x)] [])) st1 ?_
  refine own_by (T' := T1) (g' := (mkF m 5 #[.val (.ref a), .val (.ref x)] [(.ref x)])) (fun _ kt_ => XS.aloadN X1.here hx rfl (hb hby own_d8_4) rfl rfl kt_) ?_
  obtain ⟨a2, T2, h2, k2, X2, e2, E2, hS2, hk2, hZ2, hown2, st2⟩ := ldcS X1 hx hZ hown (hw _ (List.mem_of_getElem? (i := 41) rfl)) (fun d hd => hw d ((by decide +kernel : ∀ d ∈ Bundle.stringAtoms, d ∈ tables_1) d hd)) e1 hS0 (by omega) (g := (mkF m 5 #[.val (.ref a), .val (.ref x)] [(.ref x)])) rfl (hb hby own_d8_5) (n := 32) (by decide) (by decide) (by decide) (by decide)
  have K3 : Keep h0 h2 [] := own_kext E2
  have zzK3 : h0.size ≤ h2.size := K3.1
  have oo4 : Old Z n0 h2 := O0.keep K3 all0
  have kt5 : Keep h0 h2 [a] := KT0.trans K3 all0
  refine own_by (T' := T2) (g' := (mkF m 7 #[.val (.ref a), .val (.ref x)] [(.ref a2), (.ref x)])) st2 ?_
  obtain ⟨_, _, ⟨T6, L6, k6, n6⟩, -, X6, ⟨Lc6, hQ6, l6, y6, z6⟩, st6⟩ := Jvm.LawKit.callS X2 hx (y := (⟨"java/util/Objects", "requireNonNull", "(Ljava/lang/Object;Ljava/lang/String;)Ljava/lang/Object;"⟩ : MethodName)) hown2 (mvT hZ2 (hw _ (List.mem_of_getElem? (i := 44) rfl))) (mvT hZ2 (hw _ (List.mem_of_getElem? (i := 45) rfl))) (mvT hZ2 (hw _ (List.mem_of_getElem? (i := 46) rfl))) (mvT hZ2 (hw _ (List.mem_of_getElem? (i := 47) rfl))) (by decide) (backOf (W := 0) (rmRnn l Z a0 hw [] zC GS x a2 h2 n0 (by omega) oo4 ) hZ2 (hw _ (List.mem_of_getElem? (i := 47) rfl)) (hw _ (List.mem_of_getElem? (i := 46) rfl)) (by decide) (by decide)) (g := (mkF m 7 #[.val (.ref a), .val (.ref x)] [(.ref a2), (.ref x)])) rfl (by rw [hml]; rfl) (argsL := [(.ref x), (.ref a2)]) (rest := []) (lenOf own_pd_5 rfl) rfl (by show 2 * 0 + _ ≤ _; exact Nat.le_of_eq rfl) (hb hby own_d8_7) (fun _ _ => ⟨rfl, e2, (by decide : 2 + 0 ≤ _), (by decide : 36 + 0 ≤ _)⟩)
  dsimp only [Pt.U, Pt.locs, Pt.cells, Pt.slots] at X6 l6 y6 z6 st6 hQ6
  subst l6 y6 z6
  obtain ⟨rfl, N6q, e6⟩ := hQ6
  have N7 := Fr.app N0 N6q
  refine own_by (T' := T6) (g' := (mkF m 10 #[.val (.ref a), .val (.ref x)] [(.ref x)])) st6 ?_
  have f9 : Exa Z h2 x "java/lang/String" := (E_x.keep K3)
  obtain ⟨T8, X8, e8, st8⟩ := castY X6 hx hZ2 hown2 (hw _ (List.mem_of_getElem? (i := 48) rfl)) e6 (Ins.self f9) (g := (mkF m 10 #[.val (.ref a), .val (.ref x)] [(.ref x)])) rfl rfl (hb hby own_d8_10)
  refine own_by (T' := T8) (g' := (mkF m 13 #[.val (.ref a), .val (.ref x)] [(.ref x)])) st8 ?_
  have f10 : Fld Z h2 x "java/lang/String" "value" "[B" (.ref t) := (Fv.keep K3 nin0)
  have f11 : Arv Z h2 t kB .byte (1 : Int32) [(.int b0)] (.int (0 : Int32)) := (Vt.keep K3 nin0)
  obtain ⟨cq12, kq12, q12a, q12b, q12c⟩ := isOf hZ2 e8 f9
  obtain ⟨_, _, ⟨T12, L12, k12, n12⟩, -, X12, ⟨Lc12, hQ12, l12, y12, z12⟩, st12⟩ := X8.virtualBack hx (y := (⟨"java/lang/String", "isEmpty", "()Z"⟩ : MethodName)) (z := (⟨"java/lang/String", "isEmpty", "()Z"⟩ : MethodName)) hown2 (mvT hZ2 (hw _ (List.mem_of_getElem? (i := 49) rfl))) (mvT hZ2 (hw _ (List.mem_of_getElem? (i := 50) rfl))) (notFace_of_selects (args := #[]) (mvT hZ2 (hw _ (List.mem_of_getElem? (i := 52) rfl)))) (mvT hZ2 (hw _ (List.mem_of_getElem? (i := 52) rfl))) (mvT hZ2 (hw _ (List.mem_of_getElem? (i := 51) rfl))) (by decide) (backOf (W := 0) (rmEmp_1 l Z a0 hw [] zC GS x t kB b0 h2 n0 (by omega) oo4 f10 f11) hZ2 (hw _ (List.mem_of_getElem? (i := 53) rfl)) (hw _ (List.mem_of_getElem? (i := 6) rfl)) (by decide) (by decide)) q12a q12c (g := (mkF m 13 #[.val (.ref a), .val (.ref x)] [(.ref x)])) rfl (by rw [hml]; rfl) (Steps.refl _) (argsL := []) (rest := []) (lenOf own_pd_6 rfl) rfl (by show 2 * 0 + _ ≤ _; exact Nat.le_of_eq rfl) (hb hby own_d8_13) (fun _ _ => ⟨rfl, e8, (by decide : 2 + 0 ≤ _), (by decide : 36 + 0 ≤ _)⟩)
  dsimp only [Pt.U, Pt.locs, Pt.cells, Pt.slots] at X12 l12 y12 z12 st12 hQ12
  subst l12 y12 z12
  obtain ⟨rfl, N12q, e12⟩ := hQ12
  have N13 := Fr.app N7 N12q
  refine own_by (T' := T12) (g' := (mkF m 16 #[.val (.ref a), .val (.ref x)] [(.int (0 : Int32))])) (fun _ kt_ => st12.trans kt_) ?_
  refine own_by (T' := T12) (g' := (mkF m 29 #[.val (.ref a), .val (.ref x)] [])) (fun _ kt_ => XS.ifYes X12.here hx rfl (pc0 := 16) (pc' := 29) rfl (hb hby own_d8_16) rfl (XT.i0_eq_t (by decide)) (by decide) (by decide) kt_) ?_
  refine own_by (T' := T12) (g' := (mkF m 30 #[.val (.ref a), .val (.ref x)] [(.ref a)])) (fun _ kt_ => XS.aloadN X12.here hx rfl (hb hby own_d8_29) rfl rfl kt_) ?_
  refine own_by (T' := T12) (g' := (mkF m 31 #[.val (.ref a), .val (.ref x)] [(.ref x), (.ref a)])) (fun _ kt_ => XS.aloadN X12.here hx rfl (hb hby own_d8_30) rfl rfl kt_) ?_
  have f14 : Exa Z h2 a "com/example/dependency_wiring/dependencywiring/BeanNameReference" := (E_a.keep K3)
  have f15 : Fld Z h2 a "com/example/dependency_wiring/dependencywiring/BeanNameReference" "beanName" "Ljava/lang/String;" .null := (F_a.keep K3 nin0)
  obtain ⟨T16, h16, X16, e16, W16, st16⟩ := putF X12 hx hZ2 hown2 (host := "") (Or.inl (hw _ (List.mem_of_getElem? (i := 54) rfl))) Via.refl e12 f15 f14 (Or.inr ⟨(hw _ (List.mem_of_getElem? (i := 55) rfl)), rfl, hnm⟩) (hw _ (List.mem_of_getElem? (i := 35) rfl)) (ty := (.object "java/lang/String")) (by decide) rfl rfl (g := (mkF m 31 #[.val (.ref a), .val (.ref x)] [(.ref x), (.ref a)])) rfl rfl (hb hby own_d8_31)
  have K17 : Keep h2 h16 [a] := Keep.of_wr W16
  have zzK17 : h2.size ≤ h16.size := K17.1
  have oo18 : Old Z n0 h16 := oo4.keep K17 (allS (by omega : n0 ≤ a) all0)
  have kt19 : Keep h0 h16 [a] := kt5.trans K17 (allS (Or.inl (List.mem_of_getElem? (i := 0) rfl)) all0)
  have f20 : Fld Z h16 a "com/example/dependency_wiring/dependencywiring/BeanNameReference" "beanName" "Ljava/lang/String;" (.ref x) := f15.same W16
  have N21 := Fr.snoc X16 N13 (by omega : n0 ≤ a)
  refine own_by (T' := T16) (g' := (mkF m 34 #[.val (.ref a), .val (.ref x)] [])) st16 ?_
  obtain ⟨fs22, hr22, hrun22, hended22, hW22⟩ := X16.leaveW hS2 (by rw [e16]; omega) (v := none) (fun _ => rfl)
  refine ⟨_, _, X16.returnOut hx Bd.returns (hb hby own_d8_34) hr22, hrun22, hended22, _, _, rfl, ?_, hW22.1, hW22.2.1, hW22.2.2.1, hW22.2.2.2.mono (by decide) (by decide)⟩
  show Q_rmBI_1 Z zC a x t kB b0 h0 n0 _ T16.heap _
  rw [e16]
  exact ⟨rfl, N21, kt19, f20⟩
theorem own_ef_rmEmp_2 (m : MethodId) (x0 : Addr) : entryFrame m #[(.ref x0)] 1 = mkF m 0 #[.val (.ref x0)] [] := by first | (simp [entryFrame, mkF, argsToLocals, Value.category]; done) | rfl
def Q_rmEmp_2 (Z : State) (zC : Int32) (x : Addr) (t : Addr) (kB : ClassId) (b0 : Int32) (b1 : Int32) (h0 : Heap) (n0 : Nat) (vv_ : Option Value) (hh_ : Heap) (LL_ : List Loc) : Prop := vv_ = some (.int (0 : Int32)) ∧ Fr n0 LL_ ∧ hh_ = h0
set_option maxRecDepth 65536 in
set_option maxHeartbeats 40000000 in
theorem rmEmp_2 (l : Launch) (Z : State) (a0 : Array Value) (hw : ∀ d ∈ tables_1, d.before a0 Z = true) (ws : List Jvm.Cond) (zC : Int32) (GS : Glob Z zC) (x : Addr) (t : Addr) (kB : ClassId) (b0 : Int32) (b1 : Int32) (h0 : Heap) (n0 : Nat) (Z0 : n0 ≤ h0.size) (O0 : Old Z n0 h0) (Fv : Fld Z h0 x "java/lang/String" "value" "[B" (.ref t)) (Vt : Arv Z h0 t kB .byte (2 : Int32) [(.int b0), (.int b1)] (.int (0 : Int32))) :
    MetFree l (⟨"java/lang/String", "isEmpty", "()Z"⟩ : MethodName) (head1 (Jvm.Cond.code (⟨"java/lang/String", "isEmpty", "()Z"⟩ : MethodName) jdk_42_method_55_code 1 (some .boolean) :: ws) ({ frames := 0, cells := 0, slots := 0, locals := 0 } : Room)) (fun aa_ UU_ => aa_ = #[(.ref x)] ∧ Z.Warmed39 UU_.vm ∧ UU_.heap = h0) (fun _ _ _ _ _ => True) (fun _ UU_ oo_ UV_ => ∃ vv_ LL_, oo_ = .returned vv_ ∧ Q_rmEmp_2 Z zC x t kB b0 b1 h0 n0 vv_ UV_.heap LL_ ∧ FrameEnd UU_ oo_ UV_ LL_ ({ frames := 0, cells := 0, slots := 0, locals := 0 } : Room).cells ({ frames := 0, cells := 0, slots := 0, locals := 0 } : Room).slots) := by
  refine MetFree.of_bodySF (plainFor_of_name own_pn_java_lang_String) hisR ?_
  intro p e s m args below meth c s₁ Bd hml0 hP hK
  obtain ⟨rfl, hZ, hh⟩ := hP
  have hx := Bd.exec
  have hby := Bd.bytes
  have hml : c.maxLocals = 1 := hml0
  have hown : s.vm.findClass "java/lang/String" = some m.cls := findClass_of_methodNamed Bd.named
  have hnm := (name_of_methodNamed Bd.named Bd.method).1
  have X0 : Stand p l e ({ frames := 0, cells := 0, slots := 0, locals := 0 } : Room) s m #[(.ref x)] below meth c s₁ [] 0 0 := Stand.of_body Bd
  have e0 : s₁.heap = h0 := by rw [← hh, Bd.state]; rfl
  have N0 := Fr.nil n0
  have hn0 : Z.heap.size = n0 := O0.1
  have KT0 : Keep h0 h0 [] := Keep.refl _ _
  refine own_enter (Φ := fun oo_ UV_ => ∃ vv_ LL_, oo_ = .returned vv_ ∧ Q_rmEmp_2 Z zC x t kB b0 b1 h0 n0 vv_ UV_.heap LL_ ∧ FrameEnd s oo_ UV_ LL_ ({ frames := 0, cells := 0, slots := 0, locals := 0 } : Room).cells ({ frames := 0, cells := 0, slots := 0, locals := 0 } : Room).slots) (own_ef_rmEmp_2 m x) ?_
  refine own_by (T' := s₁) (g' := (mkF m 1 #[.val (.ref x)] [(.ref x)])) (fun _ kt_ => XS.aloadN X0.here hx rfl (hb hby own_d10_0) rfl rfl kt_) ?_
  obtain ⟨T1, X1, e1, st1⟩ := getF X0 hx hZ hown (host := "") (Or.inl (hw _ (List.mem_of_getElem? (i := 32) rfl))) Via.refl e0 Fv (g := (mkF m 1 #[.val (.ref x)] [(.ref x)])) rfl rfl (hb hby own_d10_1)
  refine own_by (T' := T1) (g' := (mkF m 4 #[.val (.ref x)] [(.ref t)])) st1 ?_
  obtain ⟨cl2, Ar2, q2, S2, M2, H2, G2⟩ := id Vt
  refine own_by (T' := T1) (g' := (mkF m 5 #[.val (.ref x)] [(.int (2 : Int32))])) (fun _ kt_ => X1.arraylength hx (by rw [e1]; exact Ar2.1) (State.isArrayOf_alike hZ.alike Ar2.2.1) (g := (mkF m 4 #[.val (.ref x)] [(.ref t)])) rfl rfl (hb hby own_d10_4) _ (by rw [len_of S2 M2]; exact kt_)) ?_
  refine own_by (T' := T1) (g' := (mkF m 12 #[.val (.ref x)] [])) (fun _ kt_ => XS.ifYes X1.here hx rfl (pc0 := 5) (pc' := 12) rfl (hb hby own_d10_5) rfl (XT.i0_ne_t (by decide)) (by decide) (by decide) kt_) ?_
  refine own_by (T' := T1) (g' := (mkF m 13 #[.val (.ref x)] [(.int (0 : Int32))])) (fun _ kt_ => XS.iconst X1.here hx rfl (hb hby own_d10_12) kt_) ?_
  have hn3 : nar .boolean (0 : Int32) = (0 : Int32) := rfl
  obtain ⟨fs4, hr4, hrun4, hended4, hW4, hsame4⟩ := X1.leave (v := some (.int (nar .boolean (0 : Int32)))) (fun h => by rw [Bd.returns] at h; cases h)
  refine ⟨_, _, retN X1 hx (t := .boolean) Bd.returns (by simp) (hb hby own_d10_13) hr4, hrun4, hended4, _, _, rfl, ?_, ⟨_, rfl⟩, hW4, hsame4.mono (by decide) (by decide)⟩
  show Q_rmEmp_2 Z zC x t kB b0 b1 h0 n0 _ T1.heap _
  exact ⟨(congrArg (fun z => some (Value.int z)) hn3), N0, e1⟩
theorem own_ef_rmBI_2 (m : MethodId) (x0 : Addr) (x1 : Addr) : entryFrame m #[(.ref x0), (.ref x1)] 2 = mkF m 0 #[.val (.ref x0), .val (.ref x1)] [] := by first | (simp [entryFrame, mkF, argsToLocals, Value.category]; done) | rfl
def Q_rmBI_2 (Z : State) (zC : Int32) (a : Addr) (x : Addr) (t : Addr) (kB : ClassId) (b0 : Int32) (b1 : Int32) (h0 : Heap) (n0 : Nat) (vv_ : Option Value) (hh_ : Heap) (LL_ : List Loc) : Prop := vv_ = none ∧ Fr n0 LL_ ∧ Keep h0 hh_ [a] ∧ Fld Z hh_ a "com/example/dependency_wiring/dependencywiring/BeanNameReference" "beanName" "Ljava/lang/String;" (.ref x)
set_option maxRecDepth 65536 in
set_option maxHeartbeats 40000000 in
theorem rmBI_2 (l : Launch) (Z : State) (a0 : Array Value) (hw : ∀ d ∈ tables_1, d.before a0 Z = true) (ws : List Jvm.Cond) (zC : Int32) (GS : Glob Z zC) (a : Addr) (x : Addr) (t : Addr) (kB : ClassId) (b0 : Int32) (b1 : Int32) (h0 : Heap) (n0 : Nat) (Z0 : n0 ≤ h0.size) (O0 : Old Z n0 h0) (E_a : Exa Z h0 a "com/example/dependency_wiring/dependencywiring/BeanNameReference") (g_a : n0 ≤ a) (E_x : Exa Z h0 x "java/lang/String") (F_a : Fld Z h0 a "com/example/dependency_wiring/dependencywiring/BeanNameReference" "beanName" "Ljava/lang/String;" .null) (Fv : Fld Z h0 x "java/lang/String" "value" "[B" (.ref t)) (Vt : Arv Z h0 t kB .byte (2 : Int32) [(.int b0), (.int b1)] (.int (0 : Int32))) :
    MetFree l (⟨"com/example/dependency_wiring/dependencywiring/BeanNameReference", "<init>", "(Ljava/lang/String;)V"⟩ : MethodName) (head1 (Jvm.Cond.code (⟨"com/example/dependency_wiring/dependencywiring/BeanNameReference", "<init>", "(Ljava/lang/String;)V"⟩ : MethodName) prog_21_method_1_code 2 none :: ws) ({ frames := 1, cells := 2, slots := 36, locals := 13 } : Room)) (fun aa_ UU_ => aa_ = #[(.ref a), (.ref x)] ∧ Z.Warmed39 UU_.vm ∧ UU_.heap = h0) (fun _ _ _ _ _ => True) (fun _ UU_ oo_ UV_ => ∃ vv_ LL_, oo_ = .returned vv_ ∧ Q_rmBI_2 Z zC a x t kB b0 b1 h0 n0 vv_ UV_.heap LL_ ∧ ReturnedEndW UU_ oo_ UV_ LL_ ({ frames := 1, cells := 2, slots := 36, locals := 13 } : Room).cells ({ frames := 1, cells := 2, slots := 36, locals := 13 } : Room).slots) := by
  refine MetFree.of_bodySF (plainFor_of_name own_pn_com_example_dependency_wiring_dependencywiring_BeanNameReference) hisR ?_
  intro p e s m args below meth c s₁ Bd hml0 hP hK
  obtain ⟨rfl, hZ, hh⟩ := hP
  have hx := Bd.exec
  have hby := Bd.bytes
  have hml : c.maxLocals = 2 := hml0
  have hown : s.vm.findClass "com/example/dependency_wiring/dependencywiring/BeanNameReference" = some m.cls := findClass_of_methodNamed Bd.named
  have hnm := (name_of_methodNamed Bd.named Bd.method).1
  have X0 : Stand p l e ({ frames := 1, cells := 2, slots := 36, locals := 13 } : Room) (s.setVm s.vm) m #[(.ref a), (.ref x)] below meth c s₁ [] 0 0 := Stand.of_body Bd
  have e0 : s₁.heap = h0 := by rw [← hh, Bd.state]; rfl
  have N0 := Fr.nil n0
  have hn0 : Z.heap.size = n0 := O0.1
  have KT0 : Keep h0 h0 [a] := Keep.refl _ _
  have hS0 : s.Since s.vm h0.size := (State.WarmedH.refl s).since _
  refine own_enter (Φ := fun oo_ UV_ => ∃ vv_ LL_, oo_ = .returned vv_ ∧ Q_rmBI_2 Z zC a x t kB b0 b1 h0 n0 vv_ UV_.heap LL_ ∧ ReturnedEndW s oo_ UV_ LL_ ({ frames := 1, cells := 2, slots := 36, locals := 13 } : Room).cells ({ frames := 1, cells := 2, slots := 36, locals := 13 } : Room).slots) (own_ef_rmBI_2 m a x) ?_
  refine own_by (T' := s₁) (g' := (mkF m 1 #[.val (.ref a), .val (.ref x)] [(.ref a)])) (fun _ kt_ => XS.aloadN X0.here hx rfl (hb hby own_d8_0) rfl rfl kt_) ?_
  obtain ⟨T1, X1, e1, st1⟩ := initO X0 hx hZ hown (hw _ (List.mem_of_getElem? (i := 40) rfl)) (hw _ (List.mem_of_getElem? (i := 16) rfl)) (hw _ (List.mem_of_getElem? (i := 17) rfl)) e0 (g := (mkF m 1 #[.val (.ref a), .val (.ref x)] [(.ref a)])) rfl (by rw [hml]; rfl) rfl (hb hby own_d8_1) (by decide) (W := 0) (by show 2 * 0 + _ ≤ _; exact Nat.le_of_eq rfl) (by decide)
  refine own_by (T' := T1) (g' := (mkF m 4 #[.val (.ref a), .val (.ref x)] [])) st1 ?_
  refine own_by (T' := T1) (g' := (mkF m 5 #[.val (.ref a), .val (.ref x)] [(.ref x)])) (fun _ kt_ => XS.aloadN X1.here hx rfl (hb hby own_d8_4) rfl rfl kt_) ?_
  obtain ⟨a2, T2, h2, k2, X2, e2, E2, hS2, hk2, hZ2, hown2, st2⟩ := ldcS X1 hx hZ hown (hw _ (List.mem_of_getElem? (i := 41) rfl)) (fun d hd => hw d ((by decide +kernel : ∀ d ∈ Bundle.stringAtoms, d ∈ tables_1) d hd)) e1 hS0 (by omega) (g := (mkF m 5 #[.val (.ref a), .val (.ref x)] [(.ref x)])) rfl (hb hby own_d8_5) (n := 32) (by decide) (by decide) (by decide) (by decide)
  have K3 : Keep h0 h2 [] := own_kext E2
  have zzK3 : h0.size ≤ h2.size := K3.1
  have oo4 : Old Z n0 h2 := O0.keep K3 all0
  have kt5 : Keep h0 h2 [a] := KT0.trans K3 all0
  refine own_by (T' := T2) (g' := (mkF m 7 #[.val (.ref a), .val (.ref x)] [(.ref a2), (.ref x)])) st2 ?_
  obtain ⟨_, _, ⟨T6, L6, k6, n6⟩, -, X6, ⟨Lc6, hQ6, l6, y6, z6⟩, st6⟩ := Jvm.LawKit.callS X2 hx (y := (⟨"java/util/Objects", "requireNonNull", "(Ljava/lang/Object;Ljava/lang/String;)Ljava/lang/Object;"⟩ : MethodName)) hown2 (mvT hZ2 (hw _ (List.mem_of_getElem? (i := 44) rfl))) (mvT hZ2 (hw _ (List.mem_of_getElem? (i := 45) rfl))) (mvT hZ2 (hw _ (List.mem_of_getElem? (i := 46) rfl))) (mvT hZ2 (hw _ (List.mem_of_getElem? (i := 47) rfl))) (by decide) (backOf (W := 0) (rmRnn l Z a0 hw [] zC GS x a2 h2 n0 (by omega) oo4 ) hZ2 (hw _ (List.mem_of_getElem? (i := 47) rfl)) (hw _ (List.mem_of_getElem? (i := 46) rfl)) (by decide) (by decide)) (g := (mkF m 7 #[.val (.ref a), .val (.ref x)] [(.ref a2), (.ref x)])) rfl (by rw [hml]; rfl) (argsL := [(.ref x), (.ref a2)]) (rest := []) (lenOf own_pd_5 rfl) rfl (by show 2 * 0 + _ ≤ _; exact Nat.le_of_eq rfl) (hb hby own_d8_7) (fun _ _ => ⟨rfl, e2, (by decide : 2 + 0 ≤ _), (by decide : 36 + 0 ≤ _)⟩)
  dsimp only [Pt.U, Pt.locs, Pt.cells, Pt.slots] at X6 l6 y6 z6 st6 hQ6
  subst l6 y6 z6
  obtain ⟨rfl, N6q, e6⟩ := hQ6
  have N7 := Fr.app N0 N6q
  refine own_by (T' := T6) (g' := (mkF m 10 #[.val (.ref a), .val (.ref x)] [(.ref x)])) st6 ?_
  have f9 : Exa Z h2 x "java/lang/String" := (E_x.keep K3)
  obtain ⟨T8, X8, e8, st8⟩ := castY X6 hx hZ2 hown2 (hw _ (List.mem_of_getElem? (i := 48) rfl)) e6 (Ins.self f9) (g := (mkF m 10 #[.val (.ref a), .val (.ref x)] [(.ref x)])) rfl rfl (hb hby own_d8_10)
  refine own_by (T' := T8) (g' := (mkF m 13 #[.val (.ref a), .val (.ref x)] [(.ref x)])) st8 ?_
  have f10 : Fld Z h2 x "java/lang/String" "value" "[B" (.ref t) := (Fv.keep K3 nin0)
  have f11 : Arv Z h2 t kB .byte (2 : Int32) [(.int b0), (.int b1)] (.int (0 : Int32)) := (Vt.keep K3 nin0)
  obtain ⟨cq12, kq12, q12a, q12b, q12c⟩ := isOf hZ2 e8 f9
  obtain ⟨_, _, ⟨T12, L12, k12, n12⟩, -, X12, ⟨Lc12, hQ12, l12, y12, z12⟩, st12⟩ := X8.virtualBack hx (y := (⟨"java/lang/String", "isEmpty", "()Z"⟩ : MethodName)) (z := (⟨"java/lang/String", "isEmpty", "()Z"⟩ : MethodName)) hown2 (mvT hZ2 (hw _ (List.mem_of_getElem? (i := 49) rfl))) (mvT hZ2 (hw _ (List.mem_of_getElem? (i := 50) rfl))) (notFace_of_selects (args := #[]) (mvT hZ2 (hw _ (List.mem_of_getElem? (i := 52) rfl)))) (mvT hZ2 (hw _ (List.mem_of_getElem? (i := 52) rfl))) (mvT hZ2 (hw _ (List.mem_of_getElem? (i := 51) rfl))) (by decide) (backOf (W := 0) (rmEmp_2 l Z a0 hw [] zC GS x t kB b0 b1 h2 n0 (by omega) oo4 f10 f11) hZ2 (hw _ (List.mem_of_getElem? (i := 53) rfl)) (hw _ (List.mem_of_getElem? (i := 6) rfl)) (by decide) (by decide)) q12a q12c (g := (mkF m 13 #[.val (.ref a), .val (.ref x)] [(.ref x)])) rfl (by rw [hml]; rfl) (Steps.refl _) (argsL := []) (rest := []) (lenOf own_pd_6 rfl) rfl (by show 2 * 0 + _ ≤ _; exact Nat.le_of_eq rfl) (hb hby own_d8_13) (fun _ _ => ⟨rfl, e8, (by decide : 2 + 0 ≤ _), (by decide : 36 + 0 ≤ _)⟩)
  dsimp only [Pt.U, Pt.locs, Pt.cells, Pt.slots] at X12 l12 y12 z12 st12 hQ12
  subst l12 y12 z12
  obtain ⟨rfl, N12q, e12⟩ := hQ12
  have N13 := Fr.app N7 N12q
  refine own_by (T' := T12) (g' := (mkF m 16 #[.val (.ref a), .val (.ref x)] [(.int (0 : Int32))])) (fun _ kt_ => st12.trans kt_) ?_
  refine own_by (T' := T12) (g' := (mkF m 29 #[.val (.ref a), .val (.ref x)] [])) (fun _ kt_ => XS.ifYes X12.here hx rfl (pc0 := 16) (pc' := 29) rfl (hb hby own_d8_16) rfl (XT.i0_eq_t (by decide)) (by decide) (by decide) kt_) ?_
  refine own_by (T' := T12) (g' := (mkF m 30 #[.val (.ref a), .val (.ref x)] [(.ref a)])) (fun _ kt_ => XS.aloadN X12.here hx rfl (hb hby own_d8_29) rfl rfl kt_) ?_
  refine own_by (T' := T12) (g' := (mkF m 31 #[.val (.ref a), .val (.ref x)] [(.ref x), (.ref a)])) (fun _ kt_ => XS.aloadN X12.here hx rfl (hb hby own_d8_30) rfl rfl kt_) ?_
  have f14 : Exa Z h2 a "com/example/dependency_wiring/dependencywiring/BeanNameReference" := (E_a.keep K3)
  have f15 : Fld Z h2 a "com/example/dependency_wiring/dependencywiring/BeanNameReference" "beanName" "Ljava/lang/String;" .null := (F_a.keep K3 nin0)
  obtain ⟨T16, h16, X16, e16, W16, st16⟩ := putF X12 hx hZ2 hown2 (host := "") (Or.inl (hw _ (List.mem_of_getElem? (i := 54) rfl))) Via.refl e12 f15 f14 (Or.inr ⟨(hw _ (List.mem_of_getElem? (i := 55) rfl)), rfl, hnm⟩) (hw _ (List.mem_of_getElem? (i := 35) rfl)) (ty := (.object "java/lang/String")) (by decide) rfl rfl (g := (mkF m 31 #[.val (.ref a), .val (.ref x)] [(.ref x), (.ref a)])) rfl rfl (hb hby own_d8_31)
  have K17 : Keep h2 h16 [a] := Keep.of_wr W16
  have zzK17 : h2.size ≤ h16.size := K17.1
  have oo18 : Old Z n0 h16 := oo4.keep K17 (allS (by omega : n0 ≤ a) all0)
  have kt19 : Keep h0 h16 [a] := kt5.trans K17 (allS (Or.inl (List.mem_of_getElem? (i := 0) rfl)) all0)
  have f20 : Fld Z h16 a "com/example/dependency_wiring/dependencywiring/BeanNameReference" "beanName" "Ljava/lang/String;" (.ref x) := f15.same W16
  have N21 := Fr.snoc X16 N13 (by omega : n0 ≤ a)
  refine own_by (T' := T16) (g' := (mkF m 34 #[.val (.ref a), .val (.ref x)] [])) st16 ?_
  obtain ⟨fs22, hr22, hrun22, hended22, hW22⟩ := X16.leaveW hS2 (by rw [e16]; omega) (v := none) (fun _ => rfl)
  refine ⟨_, _, X16.returnOut hx Bd.returns (hb hby own_d8_34) hr22, hrun22, hended22, _, _, rfl, ?_, hW22.1, hW22.2.1, hW22.2.2.1, hW22.2.2.2.mono (by decide) (by decide)⟩
  show Q_rmBI_2 Z zC a x t kB b0 b1 h0 n0 _ T16.heap _
  rw [e16]
  exact ⟨rfl, N21, kt19, f20⟩
theorem own_ef_rmEmp_3 (m : MethodId) (x0 : Addr) : entryFrame m #[(.ref x0)] 1 = mkF m 0 #[.val (.ref x0)] [] := by first | (simp [entryFrame, mkF, argsToLocals, Value.category]; done) | rfl
def Q_rmEmp_3 (Z : State) (zC : Int32) (x : Addr) (t : Addr) (kB : ClassId) (b0 : Int32) (b1 : Int32) (b2 : Int32) (h0 : Heap) (n0 : Nat) (vv_ : Option Value) (hh_ : Heap) (LL_ : List Loc) : Prop := vv_ = some (.int (0 : Int32)) ∧ Fr n0 LL_ ∧ hh_ = h0
set_option maxRecDepth 65536 in
set_option maxHeartbeats 40000000 in
theorem rmEmp_3 (l : Launch) (Z : State) (a0 : Array Value) (hw : ∀ d ∈ tables_1, d.before a0 Z = true) (ws : List Jvm.Cond) (zC : Int32) (GS : Glob Z zC) (x : Addr) (t : Addr) (kB : ClassId) (b0 : Int32) (b1 : Int32) (b2 : Int32) (h0 : Heap) (n0 : Nat) (Z0 : n0 ≤ h0.size) (O0 : Old Z n0 h0) (Fv : Fld Z h0 x "java/lang/String" "value" "[B" (.ref t)) (Vt : Arv Z h0 t kB .byte (3 : Int32) [(.int b0), (.int b1), (.int b2)] (.int (0 : Int32))) :
    MetFree l (⟨"java/lang/String", "isEmpty", "()Z"⟩ : MethodName) (head1 (Jvm.Cond.code (⟨"java/lang/String", "isEmpty", "()Z"⟩ : MethodName) jdk_42_method_55_code 1 (some .boolean) :: ws) ({ frames := 0, cells := 0, slots := 0, locals := 0 } : Room)) (fun aa_ UU_ => aa_ = #[(.ref x)] ∧ Z.Warmed39 UU_.vm ∧ UU_.heap = h0) (fun _ _ _ _ _ => True) (fun _ UU_ oo_ UV_ => ∃ vv_ LL_, oo_ = .returned vv_ ∧ Q_rmEmp_3 Z zC x t kB b0 b1 b2 h0 n0 vv_ UV_.heap LL_ ∧ FrameEnd UU_ oo_ UV_ LL_ ({ frames := 0, cells := 0, slots := 0, locals := 0 } : Room).cells ({ frames := 0, cells := 0, slots := 0, locals := 0 } : Room).slots) := by
  refine MetFree.of_bodySF (plainFor_of_name own_pn_java_lang_String) hisR ?_
  intro p e s m args below meth c s₁ Bd hml0 hP hK
  obtain ⟨rfl, hZ, hh⟩ := hP
  have hx := Bd.exec
  have hby := Bd.bytes
  have hml : c.maxLocals = 1 := hml0
  have hown : s.vm.findClass "java/lang/String" = some m.cls := findClass_of_methodNamed Bd.named
  have hnm := (name_of_methodNamed Bd.named Bd.method).1
  have X0 : Stand p l e ({ frames := 0, cells := 0, slots := 0, locals := 0 } : Room) s m #[(.ref x)] below meth c s₁ [] 0 0 := Stand.of_body Bd
  have e0 : s₁.heap = h0 := by rw [← hh, Bd.state]; rfl
  have N0 := Fr.nil n0
  have hn0 : Z.heap.size = n0 := O0.1
  have KT0 : Keep h0 h0 [] := Keep.refl _ _
  refine own_enter (Φ := fun oo_ UV_ => ∃ vv_ LL_, oo_ = .returned vv_ ∧ Q_rmEmp_3 Z zC x t kB b0 b1 b2 h0 n0 vv_ UV_.heap LL_ ∧ FrameEnd s oo_ UV_ LL_ ({ frames := 0, cells := 0, slots := 0, locals := 0 } : Room).cells ({ frames := 0, cells := 0, slots := 0, locals := 0 } : Room).slots) (own_ef_rmEmp_3 m x) ?_
  refine own_by (T' := s₁) (g' := (mkF m 1 #[.val (.ref x)] [(.ref x)])) (fun _ kt_ => XS.aloadN X0.here hx rfl (hb hby own_d10_0) rfl rfl kt_) ?_
  obtain ⟨T1, X1, e1, st1⟩ := getF X0 hx hZ hown (host := "") (Or.inl (hw _ (List.mem_of_getElem? (i := 32) rfl))) Via.refl e0 Fv (g := (mkF m 1 #[.val (.ref x)] [(.ref x)])) rfl rfl (hb hby own_d10_1)
  refine own_by (T' := T1) (g' := (mkF m 4 #[.val (.ref x)] [(.ref t)])) st1 ?_
  obtain ⟨cl2, Ar2, q2, S2, M2, H2, G2⟩ := id Vt
  refine own_by (T' := T1) (g' := (mkF m 5 #[.val (.ref x)] [(.int (3 : Int32))])) (fun _ kt_ => X1.arraylength hx (by rw [e1]; exact Ar2.1) (State.isArrayOf_alike hZ.alike Ar2.2.1) (g := (mkF m 4 #[.val (.ref x)] [(.ref t)])) rfl rfl (hb hby own_d10_4) _ (by rw [len_of S2 M2]; exact kt_)) ?_
  refine own_by (T' := T1) (g' := (mkF m 12 #[.val (.ref x)] [])) (fun _ kt_ => XS.ifYes X1.here hx rfl (pc0 := 5) (pc' := 12) rfl (hb hby own_d10_5) rfl (XT.i0_ne_t (by decide)) (by decide) (by decide) kt_) ?_
  refine own_by (T' := T1) (g' := (mkF m 13 #[.val (.ref x)] [(.int (0 : Int32))])) (fun _ kt_ => XS.iconst X1.here hx rfl (hb hby own_d10_12) kt_) ?_
  have hn3 : nar .boolean (0 : Int32) = (0 : Int32) := rfl
  obtain ⟨fs4, hr4, hrun4, hended4, hW4, hsame4⟩ := X1.leave (v := some (.int (nar .boolean (0 : Int32)))) (fun h => by rw [Bd.returns] at h; cases h)
  refine ⟨_, _, retN X1 hx (t := .boolean) Bd.returns (by simp) (hb hby own_d10_13) hr4, hrun4, hended4, _, _, rfl, ?_, ⟨_, rfl⟩, hW4, hsame4.mono (by decide) (by decide)⟩
  show Q_rmEmp_3 Z zC x t kB b0 b1 b2 h0 n0 _ T1.heap _
  exact ⟨(congrArg (fun z => some (Value.int z)) hn3), N0, e1⟩
theorem own_ef_rmBI_3 (m : MethodId) (x0 : Addr) (x1 : Addr) : entryFrame m #[(.ref x0), (.ref x1)] 2 = mkF m 0 #[.val (.ref x0), .val (.ref x1)] [] := by first | (simp [entryFrame, mkF, argsToLocals, Value.category]; done) | rfl
def Q_rmBI_3 (Z : State) (zC : Int32) (a : Addr) (x : Addr) (t : Addr) (kB : ClassId) (b0 : Int32) (b1 : Int32) (b2 : Int32) (h0 : Heap) (n0 : Nat) (vv_ : Option Value) (hh_ : Heap) (LL_ : List Loc) : Prop := vv_ = none ∧ Fr n0 LL_ ∧ Keep h0 hh_ [a] ∧ Fld Z hh_ a "com/example/dependency_wiring/dependencywiring/BeanNameReference" "beanName" "Ljava/lang/String;" (.ref x)
set_option maxRecDepth 65536 in
set_option maxHeartbeats 40000000 in
theorem rmBI_3 (l : Launch) (Z : State) (a0 : Array Value) (hw : ∀ d ∈ tables_1, d.before a0 Z = true) (ws : List Jvm.Cond) (zC : Int32) (GS : Glob Z zC) (a : Addr) (x : Addr) (t : Addr) (kB : ClassId) (b0 : Int32) (b1 : Int32) (b2 : Int32) (h0 : Heap) (n0 : Nat) (Z0 : n0 ≤ h0.size) (O0 : Old Z n0 h0) (E_a : Exa Z h0 a "com/example/dependency_wiring/dependencywiring/BeanNameReference") (g_a : n0 ≤ a) (E_x : Exa Z h0 x "java/lang/String") (F_a : Fld Z h0 a "com/example/dependency_wiring/dependencywiring/BeanNameReference" "beanName" "Ljava/lang/String;" .null) (Fv : Fld Z h0 x "java/lang/String" "value" "[B" (.ref t)) (Vt : Arv Z h0 t kB .byte (3 : Int32) [(.int b0), (.int b1), (.int b2)] (.int (0 : Int32))) :
    MetFree l (⟨"com/example/dependency_wiring/dependencywiring/BeanNameReference", "<init>", "(Ljava/lang/String;)V"⟩ : MethodName) (head1 (Jvm.Cond.code (⟨"com/example/dependency_wiring/dependencywiring/BeanNameReference", "<init>", "(Ljava/lang/String;)V"⟩ : MethodName) prog_21_method_1_code 2 none :: ws) ({ frames := 1, cells := 2, slots := 36, locals := 13 } : Room)) (fun aa_ UU_ => aa_ = #[(.ref a), (.ref x)] ∧ Z.Warmed39 UU_.vm ∧ UU_.heap = h0) (fun _ _ _ _ _ => True) (fun _ UU_ oo_ UV_ => ∃ vv_ LL_, oo_ = .returned vv_ ∧ Q_rmBI_3 Z zC a x t kB b0 b1 b2 h0 n0 vv_ UV_.heap LL_ ∧ ReturnedEndW UU_ oo_ UV_ LL_ ({ frames := 1, cells := 2, slots := 36, locals := 13 } : Room).cells ({ frames := 1, cells := 2, slots := 36, locals := 13 } : Room).slots) := by
  refine MetFree.of_bodySF (plainFor_of_name own_pn_com_example_dependency_wiring_dependencywiring_BeanNameReference) hisR ?_
  intro p e s m args below meth c s₁ Bd hml0 hP hK
  obtain ⟨rfl, hZ, hh⟩ := hP
  have hx := Bd.exec
  have hby := Bd.bytes
  have hml : c.maxLocals = 2 := hml0
  have hown : s.vm.findClass "com/example/dependency_wiring/dependencywiring/BeanNameReference" = some m.cls := findClass_of_methodNamed Bd.named
  have hnm := (name_of_methodNamed Bd.named Bd.method).1
  have X0 : Stand p l e ({ frames := 1, cells := 2, slots := 36, locals := 13 } : Room) (s.setVm s.vm) m #[(.ref a), (.ref x)] below meth c s₁ [] 0 0 := Stand.of_body Bd
  have e0 : s₁.heap = h0 := by rw [← hh, Bd.state]; rfl
  have N0 := Fr.nil n0
  have hn0 : Z.heap.size = n0 := O0.1
  have KT0 : Keep h0 h0 [a] := Keep.refl _ _
  have hS0 : s.Since s.vm h0.size := (State.WarmedH.refl s).since _
  refine own_enter (Φ := fun oo_ UV_ => ∃ vv_ LL_, oo_ = .returned vv_ ∧ Q_rmBI_3 Z zC a x t kB b0 b1 b2 h0 n0 vv_ UV_.heap LL_ ∧ ReturnedEndW s oo_ UV_ LL_ ({ frames := 1, cells := 2, slots := 36, locals := 13 } : Room).cells ({ frames := 1, cells := 2, slots := 36, locals := 13 } : Room).slots) (own_ef_rmBI_3 m a x) ?_
  refine own_by (T' := s₁) (g' := (mkF m 1 #[.val (.ref a), .val (.ref x)] [(.ref a)])) (fun _ kt_ => XS.aloadN X0.here hx rfl (hb hby own_d8_0) rfl rfl kt_) ?_
  obtain ⟨T1, X1, e1, st1⟩ := initO X0 hx hZ hown (hw _ (List.mem_of_getElem? (i := 40) rfl)) (hw _ (List.mem_of_getElem? (i := 16) rfl)) (hw _ (List.mem_of_getElem? (i := 17) rfl)) e0 (g := (mkF m 1 #[.val (.ref a), .val (.ref x)] [(.ref a)])) rfl (by rw [hml]; rfl) rfl (hb hby own_d8_1) (by decide) (W := 0) (by show 2 * 0 + _ ≤ _; exact Nat.le_of_eq rfl) (by decide)
  refine own_by (T' := T1) (g' := (mkF m 4 #[.val (.ref a), .val (.ref x)] [])) st1 ?_
  refine own_by (T' := T1) (g' := (mkF m 5 #[.val (.ref a), .val (.ref x)] [(.ref x)])) (fun _ kt_ => XS.aloadN X1.here hx rfl (hb hby own_d8_4) rfl rfl kt_) ?_
  obtain ⟨a2, T2, h2, k2, X2, e2, E2, hS2, hk2, hZ2, hown2, st2⟩ := ldcS X1 hx hZ hown (hw _ (List.mem_of_getElem? (i := 41) rfl)) (fun d hd => hw d ((by decide +kernel : ∀ d ∈ Bundle.stringAtoms, d ∈ tables_1) d hd)) e1 hS0 (by omega) (g := (mkF m 5 #[.val (.ref a), .val (.ref x)] [(.ref x)])) rfl (hb hby own_d8_5) (n := 32) (by decide) (by decide) (by decide) (by decide)
  have K3 : Keep h0 h2 [] := own_kext E2
  have zzK3 : h0.size ≤ h2.size := K3.1
  have oo4 : Old Z n0 h2 := O0.keep K3 all0
  have kt5 : Keep h0 h2 [a] := KT0.trans K3 all0
  refine own_by (T' := T2) (g' := (mkF m 7 #[.val (.ref a), .val (.ref x)] [(.ref a2), (.ref x)])) st2 ?_
  obtain ⟨_, _, ⟨T6, L6, k6, n6⟩, -, X6, ⟨Lc6, hQ6, l6, y6, z6⟩, st6⟩ := Jvm.LawKit.callS X2 hx (y := (⟨"java/util/Objects", "requireNonNull", "(Ljava/lang/Object;Ljava/lang/String;)Ljava/lang/Object;"⟩ : MethodName)) hown2 (mvT hZ2 (hw _ (List.mem_of_getElem? (i := 44) rfl))) (mvT hZ2 (hw _ (List.mem_of_getElem? (i := 45) rfl))) (mvT hZ2 (hw _ (List.mem_of_getElem? (i := 46) rfl))) (mvT hZ2 (hw _ (List.mem_of_getElem? (i := 47) rfl))) (by decide) (backOf (W := 0) (rmRnn l Z a0 hw [] zC GS x a2 h2 n0 (by omega) oo4 ) hZ2 (hw _ (List.mem_of_getElem? (i := 47) rfl)) (hw _ (List.mem_of_getElem? (i := 46) rfl)) (by decide) (by decide)) (g := (mkF m 7 #[.val (.ref a), .val (.ref x)] [(.ref a2), (.ref x)])) rfl (by rw [hml]; rfl) (argsL := [(.ref x), (.ref a2)]) (rest := []) (lenOf own_pd_5 rfl) rfl (by show 2 * 0 + _ ≤ _; exact Nat.le_of_eq rfl) (hb hby own_d8_7) (fun _ _ => ⟨rfl, e2, (by decide : 2 + 0 ≤ _), (by decide : 36 + 0 ≤ _)⟩)
  dsimp only [Pt.U, Pt.locs, Pt.cells, Pt.slots] at X6 l6 y6 z6 st6 hQ6
  subst l6 y6 z6
  obtain ⟨rfl, N6q, e6⟩ := hQ6
  have N7 := Fr.app N0 N6q
  refine own_by (T' := T6) (g' := (mkF m 10 #[.val (.ref a), .val (.ref x)] [(.ref x)])) st6 ?_
  have f9 : Exa Z h2 x "java/lang/String" := (E_x.keep K3)
  obtain ⟨T8, X8, e8, st8⟩ := castY X6 hx hZ2 hown2 (hw _ (List.mem_of_getElem? (i := 48) rfl)) e6 (Ins.self f9) (g := (mkF m 10 #[.val (.ref a), .val (.ref x)] [(.ref x)])) rfl rfl (hb hby own_d8_10)
  refine own_by (T' := T8) (g' := (mkF m 13 #[.val (.ref a), .val (.ref x)] [(.ref x)])) st8 ?_
  have f10 : Fld Z h2 x "java/lang/String" "value" "[B" (.ref t) := (Fv.keep K3 nin0)
  have f11 : Arv Z h2 t kB .byte (3 : Int32) [(.int b0), (.int b1), (.int b2)] (.int (0 : Int32)) := (Vt.keep K3 nin0)
  obtain ⟨cq12, kq12, q12a, q12b, q12c⟩ := isOf hZ2 e8 f9
  obtain ⟨_, _, ⟨T12, L12, k12, n12⟩, -, X12, ⟨Lc12, hQ12, l12, y12, z12⟩, st12⟩ := X8.virtualBack hx (y := (⟨"java/lang/String", "isEmpty", "()Z"⟩ : MethodName)) (z := (⟨"java/lang/String", "isEmpty", "()Z"⟩ : MethodName)) hown2 (mvT hZ2 (hw _ (List.mem_of_getElem? (i := 49) rfl))) (mvT hZ2 (hw _ (List.mem_of_getElem? (i := 50) rfl))) (notFace_of_selects (args := #[]) (mvT hZ2 (hw _ (List.mem_of_getElem? (i := 52) rfl)))) (mvT hZ2 (hw _ (List.mem_of_getElem? (i := 52) rfl))) (mvT hZ2 (hw _ (List.mem_of_getElem? (i := 51) rfl))) (by decide) (backOf (W := 0) (rmEmp_3 l Z a0 hw [] zC GS x t kB b0 b1 b2 h2 n0 (by omega) oo4 f10 f11) hZ2 (hw _ (List.mem_of_getElem? (i := 53) rfl)) (hw _ (List.mem_of_getElem? (i := 6) rfl)) (by decide) (by decide)) q12a q12c (g := (mkF m 13 #[.val (.ref a), .val (.ref x)] [(.ref x)])) rfl (by rw [hml]; rfl) (Steps.refl _) (argsL := []) (rest := []) (lenOf own_pd_6 rfl) rfl (by show 2 * 0 + _ ≤ _; exact Nat.le_of_eq rfl) (hb hby own_d8_13) (fun _ _ => ⟨rfl, e8, (by decide : 2 + 0 ≤ _), (by decide : 36 + 0 ≤ _)⟩)
  dsimp only [Pt.U, Pt.locs, Pt.cells, Pt.slots] at X12 l12 y12 z12 st12 hQ12
  subst l12 y12 z12
  obtain ⟨rfl, N12q, e12⟩ := hQ12
  have N13 := Fr.app N7 N12q
  refine own_by (T' := T12) (g' := (mkF m 16 #[.val (.ref a), .val (.ref x)] [(.int (0 : Int32))])) (fun _ kt_ => st12.trans kt_) ?_
  refine own_by (T' := T12) (g' := (mkF m 29 #[.val (.ref a), .val (.ref x)] [])) (fun _ kt_ => XS.ifYes X12.here hx rfl (pc0 := 16) (pc' := 29) rfl (hb hby own_d8_16) rfl (XT.i0_eq_t (by decide)) (by decide) (by decide) kt_) ?_
  refine own_by (T' := T12) (g' := (mkF m 30 #[.val (.ref a), .val (.ref x)] [(.ref a)])) (fun _ kt_ => XS.aloadN X12.here hx rfl (hb hby own_d8_29) rfl rfl kt_) ?_
  refine own_by (T' := T12) (g' := (mkF m 31 #[.val (.ref a), .val (.ref x)] [(.ref x), (.ref a)])) (fun _ kt_ => XS.aloadN X12.here hx rfl (hb hby own_d8_30) rfl rfl kt_) ?_
  have f14 : Exa Z h2 a "com/example/dependency_wiring/dependencywiring/BeanNameReference" := (E_a.keep K3)
  have f15 : Fld Z h2 a "com/example/dependency_wiring/dependencywiring/BeanNameReference" "beanName" "Ljava/lang/String;" .null := (F_a.keep K3 nin0)
  obtain ⟨T16, h16, X16, e16, W16, st16⟩ := putF X12 hx hZ2 hown2 (host := "") (Or.inl (hw _ (List.mem_of_getElem? (i := 54) rfl))) Via.refl e12 f15 f14 (Or.inr ⟨(hw _ (List.mem_of_getElem? (i := 55) rfl)), rfl, hnm⟩) (hw _ (List.mem_of_getElem? (i := 35) rfl)) (ty := (.object "java/lang/String")) (by decide) rfl rfl (g := (mkF m 31 #[.val (.ref a), .val (.ref x)] [(.ref x), (.ref a)])) rfl rfl (hb hby own_d8_31)
  have K17 : Keep h2 h16 [a] := Keep.of_wr W16
  have zzK17 : h2.size ≤ h16.size := K17.1
  have oo18 : Old Z n0 h16 := oo4.keep K17 (allS (by omega : n0 ≤ a) all0)
  have kt19 : Keep h0 h16 [a] := kt5.trans K17 (allS (Or.inl (List.mem_of_getElem? (i := 0) rfl)) all0)
  have f20 : Fld Z h16 a "com/example/dependency_wiring/dependencywiring/BeanNameReference" "beanName" "Ljava/lang/String;" (.ref x) := f15.same W16
  have N21 := Fr.snoc X16 N13 (by omega : n0 ≤ a)
  refine own_by (T' := T16) (g' := (mkF m 34 #[.val (.ref a), .val (.ref x)] [])) st16 ?_
  obtain ⟨fs22, hr22, hrun22, hended22, hW22⟩ := X16.leaveW hS2 (by rw [e16]; omega) (v := none) (fun _ => rfl)
  refine ⟨_, _, X16.returnOut hx Bd.returns (hb hby own_d8_34) hr22, hrun22, hended22, _, _, rfl, ?_, hW22.1, hW22.2.1, hW22.2.2.1, hW22.2.2.2.mono (by decide) (by decide)⟩
  show Q_rmBI_3 Z zC a x t kB b0 b1 b2 h0 n0 _ T16.heap _
  rw [e16]
  exact ⟨rfl, N21, kt19, f20⟩
theorem own_d11_0 : decode prog_21_method_3_code 0 = .ok (.aload_n 1, 1) := by decide +kernel
theorem own_d11_1 : decode prog_21_method_3_code 1 = .ok (.instanceof 29, 3) := by decide +kernel
theorem own_d11_4 : decode prog_21_method_3_code 4 = .ok (.ifCond .eq 26, 3) := by decide +kernel
theorem own_d11_30 : decode prog_21_method_3_code 30 = .ok (.iconst 0, 1) := by decide +kernel
theorem own_d11_31 : decode prog_21_method_3_code 31 = .ok (.ireturn, 1) := by decide +kernel
theorem own_ef_rmBEqN (m : MethodId) (x0 : Addr) : entryFrame m #[(.ref x0), .null] 3 = mkF m 0 #[.val (.ref x0), .val .null, .unset] [] := by first | (simp [entryFrame, mkF, argsToLocals, Value.category]; done) | rfl
def Q_rmBEqN (Z : State) (zC : Int32) (a : Addr) (h0 : Heap) (n0 : Nat) (vv_ : Option Value) (hh_ : Heap) (LL_ : List Loc) : Prop := vv_ = some (.int (0 : Int32)) ∧ Fr n0 LL_ ∧ hh_ = h0
set_option maxRecDepth 65536 in
set_option maxHeartbeats 40000000 in
theorem rmBEqN (l : Launch) (Z : State) (a0 : Array Value) (hw : ∀ d ∈ tables_1, d.before a0 Z = true) (ws : List Jvm.Cond) (zC : Int32) (GS : Glob Z zC) (a : Addr) (h0 : Heap) (n0 : Nat) (Z0 : n0 ≤ h0.size) (O0 : Old Z n0 h0) :
    MetFree l (⟨"com/example/dependency_wiring/dependencywiring/BeanNameReference", "equals", "(Ljava/lang/Object;)Z"⟩ : MethodName) (head1 (Jvm.Cond.code (⟨"com/example/dependency_wiring/dependencywiring/BeanNameReference", "equals", "(Ljava/lang/Object;)Z"⟩ : MethodName) prog_21_method_3_code 3 (some .boolean) :: ws) ({ frames := 0, cells := 0, slots := 0, locals := 0 } : Room)) (fun aa_ UU_ => aa_ = #[(.ref a), .null] ∧ Z.Warmed39 UU_.vm ∧ UU_.heap = h0) (fun _ _ _ _ _ => True) (fun _ UU_ oo_ UV_ => ∃ vv_ LL_, oo_ = .returned vv_ ∧ Q_rmBEqN Z zC a h0 n0 vv_ UV_.heap LL_ ∧ FrameEnd UU_ oo_ UV_ LL_ ({ frames := 0, cells := 0, slots := 0, locals := 0 } : Room).cells ({ frames := 0, cells := 0, slots := 0, locals := 0 } : Room).slots) := by
  refine MetFree.of_bodySF (plainFor_of_name own_pn_com_example_dependency_wiring_dependencywiring_BeanNameReference) hisR ?_
  intro p e s m args below meth c s₁ Bd hml0 hP hK
  obtain ⟨rfl, hZ, hh⟩ := hP
  have hx := Bd.exec
  have hby := Bd.bytes
  have hml : c.maxLocals = 3 := hml0
  have hown : s.vm.findClass "com/example/dependency_wiring/dependencywiring/BeanNameReference" = some m.cls := findClass_of_methodNamed Bd.named
  have hnm := (name_of_methodNamed Bd.named Bd.method).1
  have X0 : Stand p l e ({ frames := 0, cells := 0, slots := 0, locals := 0 } : Room) s m #[(.ref a), .null] below meth c s₁ [] 0 0 := Stand.of_body Bd
  have e0 : s₁.heap = h0 := by rw [← hh, Bd.state]; rfl
  have N0 := Fr.nil n0
  have hn0 : Z.heap.size = n0 := O0.1
  have KT0 : Keep h0 h0 [] := Keep.refl _ _
  refine own_enter (Φ := fun oo_ UV_ => ∃ vv_ LL_, oo_ = .returned vv_ ∧ Q_rmBEqN Z zC a h0 n0 vv_ UV_.heap LL_ ∧ FrameEnd s oo_ UV_ LL_ ({ frames := 0, cells := 0, slots := 0, locals := 0 } : Room).cells ({ frames := 0, cells := 0, slots := 0, locals := 0 } : Room).slots) (own_ef_rmBEqN m a) ?_
  refine own_by (T' := s₁) (g' := (mkF m 1 #[.val (.ref a), .val .null, .unset] [.null])) (fun _ kt_ => XS.aloadN X0.here hx rfl (hb hby own_d11_0) rfl rfl kt_) ?_
  refine own_by (T' := s₁) (g' := (mkF m 4 #[.val (.ref a), .val .null, .unset] [(.int (0 : Int32))])) (fun _ kt_ => X0.instanceofNull hx (g := (mkF m 1 #[.val (.ref a), .val .null, .unset] [.null])) rfl rfl (hb hby own_d11_1) _ kt_) ?_
  refine own_by (T' := s₁) (g' := (mkF m 30 #[.val (.ref a), .val .null, .unset] [])) (fun _ kt_ => XS.ifYes X0.here hx rfl (pc0 := 4) (pc' := 30) rfl (hb hby own_d11_4) rfl (XT.i0_eq_t (by decide)) (by decide) (by decide) kt_) ?_
  refine own_by (T' := s₁) (g' := (mkF m 31 #[.val (.ref a), .val .null, .unset] [(.int (0 : Int32))])) (fun _ kt_ => XS.iconst X0.here hx rfl (hb hby own_d11_30) kt_) ?_
  have hn1 : nar .boolean (0 : Int32) = (0 : Int32) := rfl
  obtain ⟨fs2, hr2, hrun2, hended2, hW2, hsame2⟩ := X0.leave (v := some (.int (nar .boolean (0 : Int32)))) (fun h => by rw [Bd.returns] at h; cases h)
  refine ⟨_, _, retN X0 hx (t := .boolean) Bd.returns (by simp) (hb hby own_d11_31) hr2, hrun2, hended2, _, _, rfl, ?_, ⟨_, rfl⟩, hW2, hsame2.mono (by decide) (by decide)⟩
  show Q_rmBEqN Z zC a h0 n0 _ s₁.heap _
  exact ⟨(congrArg (fun z => some (Value.int z)) hn1), N0, e0⟩
theorem own_ef_rmBEqS (m : MethodId) (x0 : Addr) (x1 : Addr) : entryFrame m #[(.ref x0), (.ref x1)] 3 = mkF m 0 #[.val (.ref x0), .val (.ref x1), .unset] [] := by first | (simp [entryFrame, mkF, argsToLocals, Value.category]; done) | rfl
def Q_rmBEqS (Z : State) (zC : Int32) (a : Addr) (ob : Addr) (h0 : Heap) (n0 : Nat) (vv_ : Option Value) (hh_ : Heap) (LL_ : List Loc) : Prop := vv_ = some (.int (0 : Int32)) ∧ Fr n0 LL_ ∧ hh_ = h0
set_option maxRecDepth 65536 in
set_option maxHeartbeats 40000000 in
theorem rmBEqS (l : Launch) (Z : State) (a0 : Array Value) (hw : ∀ d ∈ tables_1, d.before a0 Z = true) (ws : List Jvm.Cond) (zC : Int32) (GS : Glob Z zC) (a : Addr) (ob : Addr) (h0 : Heap) (n0 : Nat) (Z0 : n0 ≤ h0.size) (O0 : Old Z n0 h0) (Eo : Exa Z h0 ob "java/lang/String") :
    MetFree l (⟨"com/example/dependency_wiring/dependencywiring/BeanNameReference", "equals", "(Ljava/lang/Object;)Z"⟩ : MethodName) (head1 (Jvm.Cond.code (⟨"com/example/dependency_wiring/dependencywiring/BeanNameReference", "equals", "(Ljava/lang/Object;)Z"⟩ : MethodName) prog_21_method_3_code 3 (some .boolean) :: ws) ({ frames := 0, cells := 0, slots := 0, locals := 0 } : Room)) (fun aa_ UU_ => aa_ = #[(.ref a), (.ref ob)] ∧ Z.Warmed39 UU_.vm ∧ UU_.heap = h0) (fun _ _ _ _ _ => True) (fun _ UU_ oo_ UV_ => ∃ vv_ LL_, oo_ = .returned vv_ ∧ Q_rmBEqS Z zC a ob h0 n0 vv_ UV_.heap LL_ ∧ FrameEnd UU_ oo_ UV_ LL_ ({ frames := 0, cells := 0, slots := 0, locals := 0 } : Room).cells ({ frames := 0, cells := 0, slots := 0, locals := 0 } : Room).slots) := by
  refine MetFree.of_bodySF (plainFor_of_name own_pn_com_example_dependency_wiring_dependencywiring_BeanNameReference) hisR ?_
  intro p e s m args below meth c s₁ Bd hml0 hP hK
  obtain ⟨rfl, hZ, hh⟩ := hP
  have hx := Bd.exec
  have hby := Bd.bytes
  have hml : c.maxLocals = 3 := hml0
  have hown : s.vm.findClass "com/example/dependency_wiring/dependencywiring/BeanNameReference" = some m.cls := findClass_of_methodNamed Bd.named
  have hnm := (name_of_methodNamed Bd.named Bd.method).1
  have X0 : Stand p l e ({ frames := 0, cells := 0, slots := 0, locals := 0 } : Room) s m #[(.ref a), (.ref ob)] below meth c s₁ [] 0 0 := Stand.of_body Bd
  have e0 : s₁.heap = h0 := by rw [← hh, Bd.state]; rfl
  have N0 := Fr.nil n0
  have hn0 : Z.heap.size = n0 := O0.1
  have KT0 : Keep h0 h0 [] := Keep.refl _ _
  refine own_enter (Φ := fun oo_ UV_ => ∃ vv_ LL_, oo_ = .returned vv_ ∧ Q_rmBEqS Z zC a ob h0 n0 vv_ UV_.heap LL_ ∧ FrameEnd s oo_ UV_ LL_ ({ frames := 0, cells := 0, slots := 0, locals := 0 } : Room).cells ({ frames := 0, cells := 0, slots := 0, locals := 0 } : Room).slots) (own_ef_rmBEqS m a ob) ?_
  refine own_by (T' := s₁) (g' := (mkF m 1 #[.val (.ref a), .val (.ref ob), .unset] [(.ref ob)])) (fun _ kt_ => XS.aloadN X0.here hx rfl (hb hby own_d11_0) rfl rfl kt_) ?_
  obtain ⟨T1, X1, e1, st1⟩ := instNo X0 hx hZ hown (hw _ (List.mem_of_getElem? (i := 61) rfl)) e0 Eo (own_noinst (hw _ (List.mem_of_getElem? (i := 73) rfl)) (hw _ (List.mem_of_getElem? (i := 35) rfl)) (NS.step (hw _ (List.mem_of_getElem? (i := 73) rfl)) (own_nsroot (hw _ (List.mem_of_getElem? (i := 74) rfl)) (hw _ (List.mem_of_getElem? (i := 35) rfl)) (by decide)) (by decide)) (by decide)) (g := (mkF m 1 #[.val (.ref a), .val (.ref ob), .unset] [(.ref ob)])) rfl rfl (hb hby own_d11_1)
  refine own_by (T' := T1) (g' := (mkF m 4 #[.val (.ref a), .val (.ref ob), .unset] [(.int (0 : Int32))])) st1 ?_
  refine own_by (T' := T1) (g' := (mkF m 30 #[.val (.ref a), .val (.ref ob), .unset] [])) (fun _ kt_ => XS.ifYes X1.here hx rfl (pc0 := 4) (pc' := 30) rfl (hb hby own_d11_4) rfl (XT.i0_eq_t (by decide)) (by decide) (by decide) kt_) ?_
  refine own_by (T' := T1) (g' := (mkF m 31 #[.val (.ref a), .val (.ref ob), .unset] [(.int (0 : Int32))])) (fun _ kt_ => XS.iconst X1.here hx rfl (hb hby own_d11_30) kt_) ?_
  have hn2 : nar .boolean (0 : Int32) = (0 : Int32) := rfl
  obtain ⟨fs3, hr3, hrun3, hended3, hW3, hsame3⟩ := X1.leave (v := some (.int (nar .boolean (0 : Int32)))) (fun h => by rw [Bd.returns] at h; cases h)
  refine ⟨_, _, retN X1 hx (t := .boolean) Bd.returns (by simp) (hb hby own_d11_31) hr3, hrun3, hended3, _, _, rfl, ?_, ⟨_, rfl⟩, hW3, hsame3.mono (by decide) (by decide)⟩
  show Q_rmBEqS Z zC a ob h0 n0 _ T1.heap _
  exact ⟨(congrArg (fun z => some (Value.int z)) hn2), N0, e1⟩
theorem own_pd_7 : parseMethodDescriptor "(Ljava/lang/Object;)Z" = some ⟨[(.object "java/lang/Object")], some .boolean⟩ := by decide +kernel
theorem own_d11_7 : decode prog_21_method_3_code 7 = .ok (.aload_n 1, 1) := by decide +kernel
theorem own_d11_8 : decode prog_21_method_3_code 8 = .ok (.checkcast 29, 3) := by decide +kernel
theorem own_d11_11 : decode prog_21_method_3_code 11 = .ok (.astore_n 2, 1) := by decide +kernel
theorem own_d11_12 : decode prog_21_method_3_code 12 = .ok (.aload_n 2, 1) := by decide +kernel
theorem own_d11_13 : decode prog_21_method_3_code 13 = .ok (.getfield 28, 3) := by decide +kernel
theorem own_d11_16 : decode prog_21_method_3_code 16 = .ok (.aload_n 0, 1) := by decide +kernel
theorem own_d11_17 : decode prog_21_method_3_code 17 = .ok (.getfield 28, 3) := by decide +kernel
theorem own_d11_20 : decode prog_21_method_3_code 20 = .ok (.invokevirtual 33, 3) := by decide +kernel
theorem own_d11_23 : decode prog_21_method_3_code 23 = .ok (.ifCond .eq 7, 3) := by decide +kernel
theorem own_d11_26 : decode prog_21_method_3_code 26 = .ok (.iconst 1, 1) := by decide +kernel
theorem own_d11_27 : decode prog_21_method_3_code 27 = .ok (.goto 4, 3) := by decide +kernel
theorem own_ef_rmBEqM (m : MethodId) (x0 : Addr) (x1 : Addr) : entryFrame m #[(.ref x0), (.ref x1)] 3 = mkF m 0 #[.val (.ref x0), .val (.ref x1), .unset] [] := by first | (simp [entryFrame, mkF, argsToLocals, Value.category]; done) | rfl
def Q_rmBEqM (Z : State) (zC : Int32) (a : Addr) (x : Addr) (h0 : Heap) (n0 : Nat) (vv_ : Option Value) (hh_ : Heap) (LL_ : List Loc) : Prop := vv_ = some (.int (1 : Int32)) ∧ Fr n0 LL_ ∧ hh_ = h0
set_option maxRecDepth 65536 in
set_option maxHeartbeats 40000000 in
theorem rmBEqM (l : Launch) (Z : State) (a0 : Array Value) (hw : ∀ d ∈ tables_1, d.before a0 Z = true) (ws : List Jvm.Cond) (zC : Int32) (GS : Glob Z zC) (a : Addr) (x : Addr) (h0 : Heap) (n0 : Nat) (Z0 : n0 ≤ h0.size) (O0 : Old Z n0 h0) (Ea : Exa Z h0 a "com/example/dependency_wiring/dependencywiring/BeanNameReference") (Fa : Fld Z h0 a "com/example/dependency_wiring/dependencywiring/BeanNameReference" "beanName" "Ljava/lang/String;" (.ref x)) (Ex : Exa Z h0 x "java/lang/String") :
    MetFree l (⟨"com/example/dependency_wiring/dependencywiring/BeanNameReference", "equals", "(Ljava/lang/Object;)Z"⟩ : MethodName) (head1 (Jvm.Cond.code (⟨"com/example/dependency_wiring/dependencywiring/BeanNameReference", "equals", "(Ljava/lang/Object;)Z"⟩ : MethodName) prog_21_method_3_code 3 (some .boolean) :: ws) ({ frames := 1, cells := 0, slots := 0, locals := 14 } : Room)) (fun aa_ UU_ => aa_ = #[(.ref a), (.ref a)] ∧ Z.Warmed39 UU_.vm ∧ UU_.heap = h0) (fun _ _ _ _ _ => True) (fun _ UU_ oo_ UV_ => ∃ vv_ LL_, oo_ = .returned vv_ ∧ Q_rmBEqM Z zC a x h0 n0 vv_ UV_.heap LL_ ∧ FrameEnd UU_ oo_ UV_ LL_ ({ frames := 1, cells := 0, slots := 0, locals := 14 } : Room).cells ({ frames := 1, cells := 0, slots := 0, locals := 14 } : Room).slots) := by
  refine MetFree.of_bodySF (plainFor_of_name own_pn_com_example_dependency_wiring_dependencywiring_BeanNameReference) hisR ?_
  intro p e s m args below meth c s₁ Bd hml0 hP hK
  obtain ⟨rfl, hZ, hh⟩ := hP
  have hx := Bd.exec
  have hby := Bd.bytes
  have hml : c.maxLocals = 3 := hml0
  have hown : s.vm.findClass "com/example/dependency_wiring/dependencywiring/BeanNameReference" = some m.cls := findClass_of_methodNamed Bd.named
  have hnm := (name_of_methodNamed Bd.named Bd.method).1
  have X0 : Stand p l e ({ frames := 1, cells := 0, slots := 0, locals := 14 } : Room) s m #[(.ref a), (.ref a)] below meth c s₁ [] 0 0 := Stand.of_body Bd
  have e0 : s₁.heap = h0 := by rw [← hh, Bd.state]; rfl
  have N0 := Fr.nil n0
  have hn0 : Z.heap.size = n0 := O0.1
  have KT0 : Keep h0 h0 [] := Keep.refl _ _
  refine own_enter (Φ := fun oo_ UV_ => ∃ vv_ LL_, oo_ = .returned vv_ ∧ Q_rmBEqM Z zC a x h0 n0 vv_ UV_.heap LL_ ∧ FrameEnd s oo_ UV_ LL_ ({ frames := 1, cells := 0, slots := 0, locals := 14 } : Room).cells ({ frames := 1, cells := 0, slots := 0, locals := 14 } : Room).slots) (own_ef_rmBEqM m a a) ?_
  refine own_by (T' := s₁) (g' := (mkF m 1 #[.val (.ref a), .val (.ref a), .unset] [(.ref a)])) (fun _ kt_ => XS.aloadN X0.here hx rfl (hb hby own_d11_0) rfl rfl kt_) ?_
  obtain ⟨T1, X1, e1, st1⟩ := instY X0 hx hZ hown (hw _ (List.mem_of_getElem? (i := 61) rfl)) e0 (Ins.self Ea) (g := (mkF m 1 #[.val (.ref a), .val (.ref a), .unset] [(.ref a)])) rfl rfl (hb hby own_d11_1)
  refine own_by (T' := T1) (g' := (mkF m 4 #[.val (.ref a), .val (.ref a), .unset] [(.int (1 : Int32))])) st1 ?_
  refine own_by (T' := T1) (g' := (mkF m 7 #[.val (.ref a), .val (.ref a), .unset] [])) (fun _ kt_ => XS.ifNo X1.here hx rfl (hb hby own_d11_4) rfl (XT.i0_eq_f (by decide)) kt_) ?_
  refine own_by (T' := T1) (g' := (mkF m 8 #[.val (.ref a), .val (.ref a), .unset] [(.ref a)])) (fun _ kt_ => XS.aloadN X1.here hx rfl (hb hby own_d11_7) rfl rfl kt_) ?_
  obtain ⟨T2, X2, e2, st2⟩ := castY X1 hx hZ hown (hw _ (List.mem_of_getElem? (i := 61) rfl)) e1 (Ins.self Ea) (g := (mkF m 8 #[.val (.ref a), .val (.ref a), .unset] [(.ref a)])) rfl rfl (hb hby own_d11_8)
  refine own_by (T' := T2) (g' := (mkF m 11 #[.val (.ref a), .val (.ref a), .unset] [(.ref a)])) st2 ?_
  refine own_by (T' := T2) (g' := (mkF m 12 #[.val (.ref a), .val (.ref a), .val (.ref a)] [])) (fun _ kt_ => XS.astoreN X2.here hx rfl (hb hby own_d11_11) rfl rfl (l' := #[.val (.ref a), .val (.ref a), .val (.ref a)]) rfl kt_) ?_
  refine own_by (T' := T2) (g' := (mkF m 13 #[.val (.ref a), .val (.ref a), .val (.ref a)] [(.ref a)])) (fun _ kt_ => XS.aloadN X2.here hx rfl (hb hby own_d11_12) rfl rfl kt_) ?_
  obtain ⟨T3, X3, e3, st3⟩ := getF X2 hx hZ hown (host := "") (Or.inl (hw _ (List.mem_of_getElem? (i := 54) rfl))) Via.refl e2 Fa (g := (mkF m 13 #[.val (.ref a), .val (.ref a), .val (.ref a)] [(.ref a)])) rfl rfl (hb hby own_d11_13)
  refine own_by (T' := T3) (g' := (mkF m 16 #[.val (.ref a), .val (.ref a), .val (.ref a)] [(.ref x)])) st3 ?_
  refine own_by (T' := T3) (g' := (mkF m 17 #[.val (.ref a), .val (.ref a), .val (.ref a)] [(.ref a), (.ref x)])) (fun _ kt_ => XS.aloadN X3.here hx rfl (hb hby own_d11_16) rfl rfl kt_) ?_
  obtain ⟨T4, X4, e4, st4⟩ := getF X3 hx hZ hown (host := "") (Or.inl (hw _ (List.mem_of_getElem? (i := 54) rfl))) Via.refl e3 Fa (g := (mkF m 17 #[.val (.ref a), .val (.ref a), .val (.ref a)] [(.ref a), (.ref x)])) rfl rfl (hb hby own_d11_17)
  refine own_by (T' := T4) (g' := (mkF m 20 #[.val (.ref a), .val (.ref a), .val (.ref a)] [(.ref x), (.ref x)])) st4 ?_
  obtain ⟨cq5, kq5, q5a, q5b, q5c⟩ := isOf hZ e4 Ex
  obtain ⟨_, _, ⟨T5, L5, k5, n5⟩, -, X5, ⟨Lc5, hQ5, l5, y5, z5⟩, st5⟩ := X4.virtualBack hx (y := (⟨"java/lang/String", "equals", "(Ljava/lang/Object;)Z"⟩ : MethodName)) (z := (⟨"java/lang/String", "equals", "(Ljava/lang/Object;)Z"⟩ : MethodName)) hown (mvT hZ (hw _ (List.mem_of_getElem? (i := 63) rfl))) (mvT hZ (hw _ (List.mem_of_getElem? (i := 64) rfl))) (notFace_of_selects (args := #[]) (mvT hZ (hw _ (List.mem_of_getElem? (i := 66) rfl)))) (mvT hZ (hw _ (List.mem_of_getElem? (i := 66) rfl))) (mvT hZ (hw _ (List.mem_of_getElem? (i := 65) rfl))) (by decide) (backOf (W := 0) (rmSEq_s l Z a0 hw [] zC GS x h0 n0 (by omega) O0 ) hZ (hw _ (List.mem_of_getElem? (i := 67) rfl)) (hw _ (List.mem_of_getElem? (i := 6) rfl)) (by decide) (by decide)) q5a q5c (g := (mkF m 20 #[.val (.ref a), .val (.ref a), .val (.ref a)] [(.ref x), (.ref x)])) rfl (by rw [hml]; rfl) (Steps.refl _) (argsL := [(.ref x)]) (rest := []) (lenOf own_pd_7 rfl) rfl (by show 2 * 0 + _ ≤ _; exact Nat.le_of_eq rfl) (hb hby own_d11_20) (fun _ _ => ⟨rfl, e4, (by decide : 0 + 0 ≤ _), (by decide : 0 + 0 ≤ _)⟩)
  dsimp only [Pt.U, Pt.locs, Pt.cells, Pt.slots] at X5 l5 y5 z5 st5 hQ5
  subst l5 y5 z5
  obtain ⟨rfl, N5q, e5⟩ := hQ5
  have N6 := Fr.app N0 N5q
  refine own_by (T' := T5) (g' := (mkF m 23 #[.val (.ref a), .val (.ref a), .val (.ref a)] [(.int (1 : Int32))])) (fun _ kt_ => st5.trans kt_) ?_
  refine own_by (T' := T5) (g' := (mkF m 26 #[.val (.ref a), .val (.ref a), .val (.ref a)] [])) (fun _ kt_ => XS.ifNo X5.here hx rfl (hb hby own_d11_23) rfl (XT.i0_eq_f (by decide)) kt_) ?_
  refine own_by (T' := T5) (g' := (mkF m 27 #[.val (.ref a), .val (.ref a), .val (.ref a)] [(.int (1 : Int32))])) (fun _ kt_ => XS.iconst X5.here hx rfl (hb hby own_d11_26) kt_) ?_
  refine own_by (T' := T5) (g' := (mkF m 31 #[.val (.ref a), .val (.ref a), .val (.ref a)] [(.int (1 : Int32))])) (fun _ kt_ => XS.goto X5.here hx rfl (pc0 := 27) (pc' := 31) rfl (hb hby own_d11_27) (by decide) (by decide) kt_) ?_
  have hn7 : nar .boolean (1 : Int32) = (1 : Int32) := rfl
  obtain ⟨fs8, hr8, hrun8, hended8, hW8, hsame8⟩ := X5.leave (v := some (.int (nar .boolean (1 : Int32)))) (fun h => by rw [Bd.returns] at h; cases h)
  refine ⟨_, _, retN X5 hx (t := .boolean) Bd.returns (by simp) (hb hby own_d11_31) hr8, hrun8, hended8, _, _, rfl, ?_, ⟨_, rfl⟩, hW8, hsame8.mono (by decide) (by decide)⟩
  show Q_rmBEqM Z zC a x h0 n0 _ T5.heap _
  exact ⟨(congrArg (fun z => some (Value.int z)) hn7), N6, e5⟩
theorem own_ef_rmBEq_1_1 (m : MethodId) (x0 : Addr) (x1 : Addr) : entryFrame m #[(.ref x0), (.ref x1)] 3 = mkF m 0 #[.val (.ref x0), .val (.ref x1), .unset] [] := by first | (simp [entryFrame, mkF, argsToLocals, Value.category]; done) | rfl
def Q_rmBEq_1_1 (Z : State) (zC : Int32) (a : Addr) (ob : Addr) (x : Addr) (y : Addr) (d1 : Addr) (d2 : Addr) (k1 : ClassId) (k2 : ClassId) (b0 : Int32) (c0 : Int32) (h0 : Heap) (n0 : Nat) (vv_ : Option Value) (hh_ : Heap) (LL_ : List Loc) : Prop := vv_ = some (.int (if b0 = c0 then (1 : Int32) else (0 : Int32))) ∧ Fr n0 LL_ ∧ hh_ = h0
set_option maxRecDepth 65536 in
set_option maxHeartbeats 40000000 in
theorem rmBEq_1_1 (l : Launch) (Z : State) (a0 : Array Value) (hw : ∀ d ∈ tables_1, d.before a0 Z = true) (ws : List Jvm.Cond) (zC : Int32) (GS : Glob Z zC) (a : Addr) (ob : Addr) (x : Addr) (y : Addr) (d1 : Addr) (d2 : Addr) (k1 : ClassId) (k2 : ClassId) (b0 : Int32) (c0 : Int32) (h0 : Heap) (n0 : Nat) (Z0 : n0 ≤ h0.size) (O0 : Old Z n0 h0) (Eo : Exa Z h0 ob "com/example/dependency_wiring/dependencywiring/BeanNameReference") (Fo : Fld Z h0 ob "com/example/dependency_wiring/dependencywiring/BeanNameReference" "beanName" "Ljava/lang/String;" (.ref x)) (Fa : Fld Z h0 a "com/example/dependency_wiring/dependencywiring/BeanNameReference" "beanName" "Ljava/lang/String;" (.ref y)) (hxy : x ≠ y) (Ex : Exa Z h0 x "java/lang/String") (Ey : Exa Z h0 y "java/lang/String") (Fc1 : Fld Z h0 x "java/lang/String" "coder" "B" (.int (0 : Int32))) (Fc2 : Fld Z h0 y "java/lang/String" "coder" "B" (.int (0 : Int32))) (Fv1 : Fld Z h0 x "java/lang/String" "value" "[B" (.ref d1)) (Fv2 : Fld Z h0 y "java/lang/String" "value" "[B" (.ref d2)) (V1 : Arv Z h0 d1 k1 .byte (1 : Int32) [(.int b0)] (.int (0 : Int32))) (V2 : Arv Z h0 d2 k2 .byte (1 : Int32) [(.int c0)] (.int (0 : Int32))) :
    MetFree l (⟨"com/example/dependency_wiring/dependencywiring/BeanNameReference", "equals", "(Ljava/lang/Object;)Z"⟩ : MethodName) (head1 (Jvm.Cond.code (⟨"com/example/dependency_wiring/dependencywiring/BeanNameReference", "equals", "(Ljava/lang/Object;)Z"⟩ : MethodName) prog_21_method_3_code 3 (some .boolean) :: ws) ({ frames := 2, cells := 0, slots := 0, locals := 28 } : Room)) (fun aa_ UU_ => aa_ = #[(.ref a), (.ref ob)] ∧ Z.Warmed39 UU_.vm ∧ UU_.heap = h0) (fun _ _ _ _ _ => True) (fun _ UU_ oo_ UV_ => ∃ vv_ LL_, oo_ = .returned vv_ ∧ Q_rmBEq_1_1 Z zC a ob x y d1 d2 k1 k2 b0 c0 h0 n0 vv_ UV_.heap LL_ ∧ FrameEnd UU_ oo_ UV_ LL_ ({ frames := 2, cells := 0, slots := 0, locals := 28 } : Room).cells ({ frames := 2, cells := 0, slots := 0, locals := 28 } : Room).slots) := by
  refine MetFree.of_bodySF (plainFor_of_name own_pn_com_example_dependency_wiring_dependencywiring_BeanNameReference) hisR ?_
  intro p e s m args below meth c s₁ Bd hml0 hP hK
  obtain ⟨rfl, hZ, hh⟩ := hP
  have hx := Bd.exec
  have hby := Bd.bytes
  have hml : c.maxLocals = 3 := hml0
  have hown : s.vm.findClass "com/example/dependency_wiring/dependencywiring/BeanNameReference" = some m.cls := findClass_of_methodNamed Bd.named
  have hnm := (name_of_methodNamed Bd.named Bd.method).1
  have X0 : Stand p l e ({ frames := 2, cells := 0, slots := 0, locals := 28 } : Room) s m #[(.ref a), (.ref ob)] below meth c s₁ [] 0 0 := Stand.of_body Bd
  have e0 : s₁.heap = h0 := by rw [← hh, Bd.state]; rfl
  have N0 := Fr.nil n0
  have hn0 : Z.heap.size = n0 := O0.1
  have KT0 : Keep h0 h0 [] := Keep.refl _ _
  refine own_enter (Φ := fun oo_ UV_ => ∃ vv_ LL_, oo_ = .returned vv_ ∧ Q_rmBEq_1_1 Z zC a ob x y d1 d2 k1 k2 b0 c0 h0 n0 vv_ UV_.heap LL_ ∧ FrameEnd s oo_ UV_ LL_ ({ frames := 2, cells := 0, slots := 0, locals := 28 } : Room).cells ({ frames := 2, cells := 0, slots := 0, locals := 28 } : Room).slots) (own_ef_rmBEq_1_1 m a ob) ?_
  refine own_by (T' := s₁) (g' := (mkF m 1 #[.val (.ref a), .val (.ref ob), .unset] [(.ref ob)])) (fun _ kt_ => XS.aloadN X0.here hx rfl (hb hby own_d11_0) rfl rfl kt_) ?_
  obtain ⟨T1, X1, e1, st1⟩ := instY X0 hx hZ hown (hw _ (List.mem_of_getElem? (i := 61) rfl)) e0 (Ins.self Eo) (g := (mkF m 1 #[.val (.ref a), .val (.ref ob), .unset] [(.ref ob)])) rfl rfl (hb hby own_d11_1)
  refine own_by (T' := T1) (g' := (mkF m 4 #[.val (.ref a), .val (.ref ob), .unset] [(.int (1 : Int32))])) st1 ?_
  refine own_by (T' := T1) (g' := (mkF m 7 #[.val (.ref a), .val (.ref ob), .unset] [])) (fun _ kt_ => XS.ifNo X1.here hx rfl (hb hby own_d11_4) rfl (XT.i0_eq_f (by decide)) kt_) ?_
  refine own_by (T' := T1) (g' := (mkF m 8 #[.val (.ref a), .val (.ref ob), .unset] [(.ref ob)])) (fun _ kt_ => XS.aloadN X1.here hx rfl (hb hby own_d11_7) rfl rfl kt_) ?_
  obtain ⟨T2, X2, e2, st2⟩ := castY X1 hx hZ hown (hw _ (List.mem_of_getElem? (i := 61) rfl)) e1 (Ins.self Eo) (g := (mkF m 8 #[.val (.ref a), .val (.ref ob), .unset] [(.ref ob)])) rfl rfl (hb hby own_d11_8)
  refine own_by (T' := T2) (g' := (mkF m 11 #[.val (.ref a), .val (.ref ob), .unset] [(.ref ob)])) st2 ?_
  refine own_by (T' := T2) (g' := (mkF m 12 #[.val (.ref a), .val (.ref ob), .val (.ref ob)] [])) (fun _ kt_ => XS.astoreN X2.here hx rfl (hb hby own_d11_11) rfl rfl (l' := #[.val (.ref a), .val (.ref ob), .val (.ref ob)]) rfl kt_) ?_
  refine own_by (T' := T2) (g' := (mkF m 13 #[.val (.ref a), .val (.ref ob), .val (.ref ob)] [(.ref ob)])) (fun _ kt_ => XS.aloadN X2.here hx rfl (hb hby own_d11_12) rfl rfl kt_) ?_
  obtain ⟨T3, X3, e3, st3⟩ := getF X2 hx hZ hown (host := "") (Or.inl (hw _ (List.mem_of_getElem? (i := 54) rfl))) Via.refl e2 Fo (g := (mkF m 13 #[.val (.ref a), .val (.ref ob), .val (.ref ob)] [(.ref ob)])) rfl rfl (hb hby own_d11_13)
  refine own_by (T' := T3) (g' := (mkF m 16 #[.val (.ref a), .val (.ref ob), .val (.ref ob)] [(.ref x)])) st3 ?_
  refine own_by (T' := T3) (g' := (mkF m 17 #[.val (.ref a), .val (.ref ob), .val (.ref ob)] [(.ref a), (.ref x)])) (fun _ kt_ => XS.aloadN X3.here hx rfl (hb hby own_d11_16) rfl rfl kt_) ?_
  obtain ⟨T4, X4, e4, st4⟩ := getF X3 hx hZ hown (host := "") (Or.inl (hw _ (List.mem_of_getElem? (i := 54) rfl))) Via.refl e3 Fa (g := (mkF m 17 #[.val (.ref a), .val (.ref ob), .val (.ref ob)] [(.ref a), (.ref x)])) rfl rfl (hb hby own_d11_17)
  refine own_by (T' := T4) (g' := (mkF m 20 #[.val (.ref a), .val (.ref ob), .val (.ref ob)] [(.ref y), (.ref x)])) st4 ?_
  obtain ⟨cq5, kq5, q5a, q5b, q5c⟩ := isOf hZ e4 Ex
  obtain ⟨_, _, ⟨T5, L5, k5, n5⟩, -, X5, ⟨Lc5, hQ5, l5, y5, z5⟩, st5⟩ := X4.virtualBack hx (y := (⟨"java/lang/String", "equals", "(Ljava/lang/Object;)Z"⟩ : MethodName)) (z := (⟨"java/lang/String", "equals", "(Ljava/lang/Object;)Z"⟩ : MethodName)) hown (mvT hZ (hw _ (List.mem_of_getElem? (i := 63) rfl))) (mvT hZ (hw _ (List.mem_of_getElem? (i := 64) rfl))) (notFace_of_selects (args := #[]) (mvT hZ (hw _ (List.mem_of_getElem? (i := 66) rfl)))) (mvT hZ (hw _ (List.mem_of_getElem? (i := 66) rfl))) (mvT hZ (hw _ (List.mem_of_getElem? (i := 65) rfl))) (by decide) (backOf (W := 0) (rmSEq_1_1 l Z a0 hw [] zC GS x y d1 d2 k1 k2 b0 c0 h0 n0 (by omega) O0 hxy Ey Fc1 Fc2 Fv1 Fv2 V1 V2) hZ (hw _ (List.mem_of_getElem? (i := 67) rfl)) (hw _ (List.mem_of_getElem? (i := 6) rfl)) (by decide) (by decide)) q5a q5c (g := (mkF m 20 #[.val (.ref a), .val (.ref ob), .val (.ref ob)] [(.ref y), (.ref x)])) rfl (by rw [hml]; rfl) (Steps.refl _) (argsL := [(.ref y)]) (rest := []) (lenOf own_pd_7 rfl) rfl (by show 2 * 0 + _ ≤ _; exact Nat.le_of_eq rfl) (hb hby own_d11_20) (fun _ _ => ⟨rfl, e4, (by decide : 0 + 0 ≤ _), (by decide : 0 + 0 ≤ _)⟩)
  dsimp only [Pt.U, Pt.locs, Pt.cells, Pt.slots] at X5 l5 y5 z5 st5 hQ5
  subst l5 y5 z5
  obtain ⟨rfl, N5q, e5⟩ := hQ5
  have N6 := Fr.app N0 N5q
  refine own_by (T' := T5) (g' := (mkF m 23 #[.val (.ref a), .val (.ref ob), .val (.ref ob)] [(.int (if b0 = c0 then (1 : Int32) else (0 : Int32)))])) (fun _ kt_ => st5.trans kt_) ?_
  by_cases hc7 : (if b0 = c0 then (1 : Int32) else (0 : Int32)) = (0 : Int32)
  · refine own_by (T' := T5) (g' := (mkF m 30 #[.val (.ref a), .val (.ref ob), .val (.ref ob)] [])) (fun _ kt_ => XS.ifYes X5.here hx rfl (pc0 := 23) (pc' := 30) rfl (hb hby own_d11_23) rfl (XT.i0_eq_t hc7) (by decide) (by decide) kt_) ?_
    refine own_by (T' := T5) (g' := (mkF m 31 #[.val (.ref a), .val (.ref ob), .val (.ref ob)] [(.int (0 : Int32))])) (fun _ kt_ => XS.iconst X5.here hx rfl (hb hby own_d11_30) kt_) ?_
    have hn8 : nar .boolean (0 : Int32) = (0 : Int32) := rfl
    have hr9 : (0 : Int32) = (if b0 = c0 then (1 : Int32) else (0 : Int32)) := by first | rfl | (revert hc7; (repeat' split) <;> simp_all) | (revert hc7; simp)
    obtain ⟨fs10, hr10, hrun10, hended10, hW10, hsame10⟩ := X5.leave (v := some (.int (nar .boolean (0 : Int32)))) (fun h => by rw [Bd.returns] at h; cases h)
    refine ⟨_, _, retN X5 hx (t := .boolean) Bd.returns (by simp) (hb hby own_d11_31) hr10, hrun10, hended10, _, _, rfl, ?_, ⟨_, rfl⟩, hW10, hsame10.mono (by decide) (by decide)⟩
    show Q_rmBEq_1_1 Z zC a ob x y d1 d2 k1 k2 b0 c0 h0 n0 _ T5.heap _
    exact ⟨(congrArg (fun z => some (Value.int z)) (hn8.trans hr9)), N6, e5⟩
  · refine own_by (T' := T5) (g' := (mkF m 26 #[.val (.ref a), .val (.ref ob), .val (.ref ob)] [])) (fun _ kt_ => XS.ifNo X5.here hx rfl (hb hby own_d11_23) rfl (XT.i0_eq_f hc7) kt_) ?_
    refine own_by (T' := T5) (g' := (mkF m 27 #[.val (.ref a), .val (.ref ob), .val (.ref ob)] [(.int (1 : Int32))])) (fun _ kt_ => XS.iconst X5.here hx rfl (hb hby own_d11_26) kt_) ?_
    refine own_by (T' := T5) (g' := (mkF m 31 #[.val (.ref a), .val (.ref ob), .val (.ref ob)] [(.int (1 : Int32))])) (fun _ kt_ => XS.goto X5.here hx rfl (pc0 := 27) (pc' := 31) rfl (hb hby own_d11_27) (by decide) (by decide) kt_) ?_
    have hn11 : nar .boolean (1 : Int32) = (1 : Int32) := rfl
    have hr12 : (1 : Int32) = (if b0 = c0 then (1 : Int32) else (0 : Int32)) := by first | rfl | (revert hc7; (repeat' split) <;> simp_all) | (revert hc7; simp)
    obtain ⟨fs13, hr13, hrun13, hended13, hW13, hsame13⟩ := X5.leave (v := some (.int (nar .boolean (1 : Int32)))) (fun h => by rw [Bd.returns] at h; cases h)
    refine ⟨_, _, retN X5 hx (t := .boolean) Bd.returns (by simp) (hb hby own_d11_31) hr13, hrun13, hended13, _, _, rfl, ?_, ⟨_, rfl⟩, hW13, hsame13.mono (by decide) (by decide)⟩
    show Q_rmBEq_1_1 Z zC a ob x y d1 d2 k1 k2 b0 c0 h0 n0 _ T5.heap _
    exact ⟨(congrArg (fun z => some (Value.int z)) (hn11.trans hr12)), N6, e5⟩
theorem own_ef_rmBEq_1_2 (m : MethodId) (x0 : Addr) (x1 : Addr) : entryFrame m #[(.ref x0), (.ref x1)] 3 = mkF m 0 #[.val (.ref x0), .val (.ref x1), .unset] [] := by first | (simp [entryFrame, mkF, argsToLocals, Value.category]; done) | rfl
def Q_rmBEq_1_2 (Z : State) (zC : Int32) (a : Addr) (ob : Addr) (x : Addr) (y : Addr) (d1 : Addr) (d2 : Addr) (k1 : ClassId) (k2 : ClassId) (b0 : Int32) (c0 : Int32) (c1 : Int32) (h0 : Heap) (n0 : Nat) (vv_ : Option Value) (hh_ : Heap) (LL_ : List Loc) : Prop := vv_ = some (.int (0 : Int32)) ∧ Fr n0 LL_ ∧ hh_ = h0
set_option maxRecDepth 65536 in
set_option maxHeartbeats 40000000 in
theorem rmBEq_1_2 (l : Launch) (Z : State) (a0 : Array Value) (hw : ∀ d ∈ tables_1, d.before a0 Z = true) (ws : List Jvm.Cond) (zC : Int32) (GS : Glob Z zC) (a : Addr) (ob : Addr) (x : Addr) (y : Addr) (d1 : Addr) (d2 : Addr) (k1 : ClassId) (k2 : ClassId) (b0 : Int32) (c0 : Int32) (c1 : Int32) (h0 : Heap) (n0 : Nat) (Z0 : n0 ≤ h0.size) (O0 : Old Z n0 h0) (Eo : Exa Z h0 ob "com/example/dependency_wiring/dependencywiring/BeanNameReference") (Fo : Fld Z h0 ob "com/example/dependency_wiring/dependencywiring/BeanNameReference" "beanName" "Ljava/lang/String;" (.ref x)) (Fa : Fld Z h0 a "com/example/dependency_wiring/dependencywiring/BeanNameReference" "beanName" "Ljava/lang/String;" (.ref y)) (hxy : x ≠ y) (Ex : Exa Z h0 x "java/lang/String") (Ey : Exa Z h0 y "java/lang/String") (Fc1 : Fld Z h0 x "java/lang/String" "coder" "B" (.int (0 : Int32))) (Fc2 : Fld Z h0 y "java/lang/String" "coder" "B" (.int (0 : Int32))) (Fv1 : Fld Z h0 x "java/lang/String" "value" "[B" (.ref d1)) (Fv2 : Fld Z h0 y "java/lang/String" "value" "[B" (.ref d2)) (V1 : Arv Z h0 d1 k1 .byte (1 : Int32) [(.int b0)] (.int (0 : Int32))) (V2 : Arv Z h0 d2 k2 .byte (2 : Int32) [(.int c0), (.int c1)] (.int (0 : Int32))) :
    MetFree l (⟨"com/example/dependency_wiring/dependencywiring/BeanNameReference", "equals", "(Ljava/lang/Object;)Z"⟩ : MethodName) (head1 (Jvm.Cond.code (⟨"com/example/dependency_wiring/dependencywiring/BeanNameReference", "equals", "(Ljava/lang/Object;)Z"⟩ : MethodName) prog_21_method_3_code 3 (some .boolean) :: ws) ({ frames := 2, cells := 0, slots := 0, locals := 28 } : Room)) (fun aa_ UU_ => aa_ = #[(.ref a), (.ref ob)] ∧ Z.Warmed39 UU_.vm ∧ UU_.heap = h0) (fun _ _ _ _ _ => True) (fun _ UU_ oo_ UV_ => ∃ vv_ LL_, oo_ = .returned vv_ ∧ Q_rmBEq_1_2 Z zC a ob x y d1 d2 k1 k2 b0 c0 c1 h0 n0 vv_ UV_.heap LL_ ∧ FrameEnd UU_ oo_ UV_ LL_ ({ frames := 2, cells := 0, slots := 0, locals := 28 } : Room).cells ({ frames := 2, cells := 0, slots := 0, locals := 28 } : Room).slots) := by
  refine MetFree.of_bodySF (plainFor_of_name own_pn_com_example_dependency_wiring_dependencywiring_BeanNameReference) hisR ?_
  intro p e s m args below meth c s₁ Bd hml0 hP hK
  obtain ⟨rfl, hZ, hh⟩ := hP
  have hx := Bd.exec
  have hby := Bd.bytes
  have hml : c.maxLocals = 3 := hml0
  have hown : s.vm.findClass "com/example/dependency_wiring/dependencywiring/BeanNameReference" = some m.cls := findClass_of_methodNamed Bd.named
  have hnm := (name_of_methodNamed Bd.named Bd.method).1
  have X0 : Stand p l e ({ frames := 2, cells := 0, slots := 0, locals := 28 } : Room) s m #[(.ref a), (.ref ob)] below meth c s₁ [] 0 0 := Stand.of_body Bd
  have e0 : s₁.heap = h0 := by rw [← hh, Bd.state]; rfl
  have N0 := Fr.nil n0
  have hn0 : Z.heap.size = n0 := O0.1
  have KT0 : Keep h0 h0 [] := Keep.refl _ _
  refine own_enter (Φ := fun oo_ UV_ => ∃ vv_ LL_, oo_ = .returned vv_ ∧ Q_rmBEq_1_2 Z zC a ob x y d1 d2 k1 k2 b0 c0 c1 h0 n0 vv_ UV_.heap LL_ ∧ FrameEnd s oo_ UV_ LL_ ({ frames := 2, cells := 0, slots := 0, locals := 28 } : Room).cells ({ frames := 2, cells := 0, slots := 0, locals := 28 } : Room).slots) (own_ef_rmBEq_1_2 m a ob) ?_
  refine own_by (T' := s₁) (g' := (mkF m 1 #[.val (.ref a), .val (.ref ob), .unset] [(.ref ob)])) (fun _ kt_ => XS.aloadN X0.here hx rfl (hb hby own_d11_0) rfl rfl kt_) ?_
  obtain ⟨T1, X1, e1, st1⟩ := instY X0 hx hZ hown (hw _ (List.mem_of_getElem? (i := 61) rfl)) e0 (Ins.self Eo) (g := (mkF m 1 #[.val (.ref a), .val (.ref ob), .unset] [(.ref ob)])) rfl rfl (hb hby own_d11_1)
  refine own_by (T' := T1) (g' := (mkF m 4 #[.val (.ref a), .val (.ref ob), .unset] [(.int (1 : Int32))])) st1 ?_
  refine own_by (T' := T1) (g' := (mkF m 7 #[.val (.ref a), .val (.ref ob), .unset] [])) (fun _ kt_ => XS.ifNo X1.here hx rfl (hb hby own_d11_4) rfl (XT.i0_eq_f (by decide)) kt_) ?_
  refine own_by (T' := T1) (g' := (mkF m 8 #[.val (.ref a), .val (.ref ob), .unset] [(.ref ob)])) (fun _ kt_ => XS.aloadN X1.here hx rfl (hb hby own_d11_7) rfl rfl kt_) ?_
  obtain ⟨T2, X2, e2, st2⟩ := castY X1 hx hZ hown (hw _ (List.mem_of_getElem? (i := 61) rfl)) e1 (Ins.self Eo) (g := (mkF m 8 #[.val (.ref a), .val (.ref ob), .unset] [(.ref ob)])) rfl rfl (hb hby own_d11_8)
  refine own_by (T' := T2) (g' := (mkF m 11 #[.val (.ref a), .val (.ref ob), .unset] [(.ref ob)])) st2 ?_
  refine own_by (T' := T2) (g' := (mkF m 12 #[.val (.ref a), .val (.ref ob), .val (.ref ob)] [])) (fun _ kt_ => XS.astoreN X2.here hx rfl (hb hby own_d11_11) rfl rfl (l' := #[.val (.ref a), .val (.ref ob), .val (.ref ob)]) rfl kt_) ?_
  refine own_by (T' := T2) (g' := (mkF m 13 #[.val (.ref a), .val (.ref ob), .val (.ref ob)] [(.ref ob)])) (fun _ kt_ => XS.aloadN X2.here hx rfl (hb hby own_d11_12) rfl rfl kt_) ?_
  obtain ⟨T3, X3, e3, st3⟩ := getF X2 hx hZ hown (host := "") (Or.inl (hw _ (List.mem_of_getElem? (i := 54) rfl))) Via.refl e2 Fo (g := (mkF m 13 #[.val (.ref a), .val (.ref ob), .val (.ref ob)] [(.ref ob)])) rfl rfl (hb hby own_d11_13)
  refine own_by (T' := T3) (g' := (mkF m 16 #[.val (.ref a), .val (.ref ob), .val (.ref ob)] [(.ref x)])) st3 ?_
  refine own_by (T' := T3) (g' := (mkF m 17 #[.val (.ref a), .val (.ref ob), .val (.ref ob)] [(.ref a), (.ref x)])) (fun _ kt_ => XS.aloadN X3.here hx rfl (hb hby own_d11_16) rfl rfl kt_) ?_
  obtain ⟨T4, X4, e4, st4⟩ := getF X3 hx hZ hown (host := "") (Or.inl (hw _ (List.mem_of_getElem? (i := 54) rfl))) Via.refl e3 Fa (g := (mkF m 17 #[.val (.ref a), .val (.ref ob), .val (.ref ob)] [(.ref a), (.ref x)])) rfl rfl (hb hby own_d11_17)
  refine own_by (T' := T4) (g' := (mkF m 20 #[.val (.ref a), .val (.ref ob), .val (.ref ob)] [(.ref y), (.ref x)])) st4 ?_
  obtain ⟨cq5, kq5, q5a, q5b, q5c⟩ := isOf hZ e4 Ex
  obtain ⟨_, _, ⟨T5, L5, k5, n5⟩, -, X5, ⟨Lc5, hQ5, l5, y5, z5⟩, st5⟩ := X4.virtualBack hx (y := (⟨"java/lang/String", "equals", "(Ljava/lang/Object;)Z"⟩ : MethodName)) (z := (⟨"java/lang/String", "equals", "(Ljava/lang/Object;)Z"⟩ : MethodName)) hown (mvT hZ (hw _ (List.mem_of_getElem? (i := 63) rfl))) (mvT hZ (hw _ (List.mem_of_getElem? (i := 64) rfl))) (notFace_of_selects (args := #[]) (mvT hZ (hw _ (List.mem_of_getElem? (i := 66) rfl)))) (mvT hZ (hw _ (List.mem_of_getElem? (i := 66) rfl))) (mvT hZ (hw _ (List.mem_of_getElem? (i := 65) rfl))) (by decide) (backOf (W := 0) (rmSEq_1_2 l Z a0 hw [] zC GS x y d1 d2 k1 k2 b0 c0 c1 h0 n0 (by omega) O0 hxy Ey Fc1 Fc2 Fv1 Fv2 V1 V2) hZ (hw _ (List.mem_of_getElem? (i := 67) rfl)) (hw _ (List.mem_of_getElem? (i := 6) rfl)) (by decide) (by decide)) q5a q5c (g := (mkF m 20 #[.val (.ref a), .val (.ref ob), .val (.ref ob)] [(.ref y), (.ref x)])) rfl (by rw [hml]; rfl) (Steps.refl _) (argsL := [(.ref y)]) (rest := []) (lenOf own_pd_7 rfl) rfl (by show 2 * 0 + _ ≤ _; exact Nat.le_of_eq rfl) (hb hby own_d11_20) (fun _ _ => ⟨rfl, e4, (by decide : 0 + 0 ≤ _), (by decide : 0 + 0 ≤ _)⟩)
  dsimp only [Pt.U, Pt.locs, Pt.cells, Pt.slots] at X5 l5 y5 z5 st5 hQ5
  subst l5 y5 z5
  obtain ⟨rfl, N5q, e5⟩ := hQ5
  have N6 := Fr.app N0 N5q
  refine own_by (T' := T5) (g' := (mkF m 23 #[.val (.ref a), .val (.ref ob), .val (.ref ob)] [(.int (0 : Int32))])) (fun _ kt_ => st5.trans kt_) ?_
  refine own_by (T' := T5) (g' := (mkF m 30 #[.val (.ref a), .val (.ref ob), .val (.ref ob)] [])) (fun _ kt_ => XS.ifYes X5.here hx rfl (pc0 := 23) (pc' := 30) rfl (hb hby own_d11_23) rfl (XT.i0_eq_t (by decide)) (by decide) (by decide) kt_) ?_
  refine own_by (T' := T5) (g' := (mkF m 31 #[.val (.ref a), .val (.ref ob), .val (.ref ob)] [(.int (0 : Int32))])) (fun _ kt_ => XS.iconst X5.here hx rfl (hb hby own_d11_30) kt_) ?_
  have hn7 : nar .boolean (0 : Int32) = (0 : Int32) := rfl
  obtain ⟨fs8, hr8, hrun8, hended8, hW8, hsame8⟩ := X5.leave (v := some (.int (nar .boolean (0 : Int32)))) (fun h => by rw [Bd.returns] at h; cases h)
  refine ⟨_, _, retN X5 hx (t := .boolean) Bd.returns (by simp) (hb hby own_d11_31) hr8, hrun8, hended8, _, _, rfl, ?_, ⟨_, rfl⟩, hW8, hsame8.mono (by decide) (by decide)⟩
  show Q_rmBEq_1_2 Z zC a ob x y d1 d2 k1 k2 b0 c0 c1 h0 n0 _ T5.heap _
  exact ⟨(congrArg (fun z => some (Value.int z)) hn7), N6, e5⟩
theorem own_ef_rmBEq_1_3 (m : MethodId) (x0 : Addr) (x1 : Addr) : entryFrame m #[(.ref x0), (.ref x1)] 3 = mkF m 0 #[.val (.ref x0), .val (.ref x1), .unset] [] := by first | (simp [entryFrame, mkF, argsToLocals, Value.category]; done) | rfl
def Q_rmBEq_1_3 (Z : State) (zC : Int32) (a : Addr) (ob : Addr) (x : Addr) (y : Addr) (d1 : Addr) (d2 : Addr) (k1 : ClassId) (k2 : ClassId) (b0 : Int32) (c0 : Int32) (c1 : Int32) (c2 : Int32) (h0 : Heap) (n0 : Nat) (vv_ : Option Value) (hh_ : Heap) (LL_ : List Loc) : Prop := vv_ = some (.int (0 : Int32)) ∧ Fr n0 LL_ ∧ hh_ = h0
set_option maxRecDepth 65536 in
set_option maxHeartbeats 40000000 in
theorem rmBEq_1_3 (l : Launch) (Z : State) (a0 : Array Value) (hw : ∀ d ∈ tables_1, d.before a0 Z = true) (ws : List Jvm.Cond) (zC : Int32) (GS : Glob Z zC) (a : Addr) (ob : Addr) (x : Addr) (y : Addr) (d1 : Addr) (d2 : Addr) (k1 : ClassId) (k2 : ClassId) (b0 : Int32) (c0 : Int32) (c1 : Int32) (c2 : Int32) (h0 : Heap) (n0 : Nat) (Z0 : n0 ≤ h0.size) (O0 : Old Z n0 h0) (Eo : Exa Z h0 ob "com/example/dependency_wiring/dependencywiring/BeanNameReference") (Fo : Fld Z h0 ob "com/example/dependency_wiring/dependencywiring/BeanNameReference" "beanName" "Ljava/lang/String;" (.ref x)) (Fa : Fld Z h0 a "com/example/dependency_wiring/dependencywiring/BeanNameReference" "beanName" "Ljava/lang/String;" (.ref y)) (hxy : x ≠ y) (Ex : Exa Z h0 x "java/lang/String") (Ey : Exa Z h0 y "java/lang/String") (Fc1 : Fld Z h0 x "java/lang/String" "coder" "B" (.int (0 : Int32))) (Fc2 : Fld Z h0 y "java/lang/String" "coder" "B" (.int (0 : Int32))) (Fv1 : Fld Z h0 x "java/lang/String" "value" "[B" (.ref d1)) (Fv2 : Fld Z h0 y "java/lang/String" "value" "[B" (.ref d2)) (V1 : Arv Z h0 d1 k1 .byte (1 : Int32) [(.int b0)] (.int (0 : Int32))) (V2 : Arv Z h0 d2 k2 .byte (3 : Int32) [(.int c0), (.int c1), (.int c2)] (.int (0 : Int32))) :
    MetFree l (⟨"com/example/dependency_wiring/dependencywiring/BeanNameReference", "equals", "(Ljava/lang/Object;)Z"⟩ : MethodName) (head1 (Jvm.Cond.code (⟨"com/example/dependency_wiring/dependencywiring/BeanNameReference", "equals", "(Ljava/lang/Object;)Z"⟩ : MethodName) prog_21_method_3_code 3 (some .boolean) :: ws) ({ frames := 2, cells := 0, slots := 0, locals := 28 } : Room)) (fun aa_ UU_ => aa_ = #[(.ref a), (.ref ob)] ∧ Z.Warmed39 UU_.vm ∧ UU_.heap = h0) (fun _ _ _ _ _ => True) (fun _ UU_ oo_ UV_ => ∃ vv_ LL_, oo_ = .returned vv_ ∧ Q_rmBEq_1_3 Z zC a ob x y d1 d2 k1 k2 b0 c0 c1 c2 h0 n0 vv_ UV_.heap LL_ ∧ FrameEnd UU_ oo_ UV_ LL_ ({ frames := 2, cells := 0, slots := 0, locals := 28 } : Room).cells ({ frames := 2, cells := 0, slots := 0, locals := 28 } : Room).slots) := by
  refine MetFree.of_bodySF (plainFor_of_name own_pn_com_example_dependency_wiring_dependencywiring_BeanNameReference) hisR ?_
  intro p e s m args below meth c s₁ Bd hml0 hP hK
  obtain ⟨rfl, hZ, hh⟩ := hP
  have hx := Bd.exec
  have hby := Bd.bytes
  have hml : c.maxLocals = 3 := hml0
  have hown : s.vm.findClass "com/example/dependency_wiring/dependencywiring/BeanNameReference" = some m.cls := findClass_of_methodNamed Bd.named
  have hnm := (name_of_methodNamed Bd.named Bd.method).1
  have X0 : Stand p l e ({ frames := 2, cells := 0, slots := 0, locals := 28 } : Room) s m #[(.ref a), (.ref ob)] below meth c s₁ [] 0 0 := Stand.of_body Bd
  have e0 : s₁.heap = h0 := by rw [← hh, Bd.state]; rfl
  have N0 := Fr.nil n0
  have hn0 : Z.heap.size = n0 := O0.1
  have KT0 : Keep h0 h0 [] := Keep.refl _ _
  refine own_enter (Φ := fun oo_ UV_ => ∃ vv_ LL_, oo_ = .returned vv_ ∧ Q_rmBEq_1_3 Z zC a ob x y d1 d2 k1 k2 b0 c0 c1 c2 h0 n0 vv_ UV_.heap LL_ ∧ FrameEnd s oo_ UV_ LL_ ({ frames := 2, cells := 0, slots := 0, locals := 28 } : Room).cells ({ frames := 2, cells := 0, slots := 0, locals := 28 } : Room).slots) (own_ef_rmBEq_1_3 m a ob) ?_
  refine own_by (T' := s₁) (g' := (mkF m 1 #[.val (.ref a), .val (.ref ob), .unset] [(.ref ob)])) (fun _ kt_ => XS.aloadN X0.here hx rfl (hb hby own_d11_0) rfl rfl kt_) ?_
  obtain ⟨T1, X1, e1, st1⟩ := instY X0 hx hZ hown (hw _ (List.mem_of_getElem? (i := 61) rfl)) e0 (Ins.self Eo) (g := (mkF m 1 #[.val (.ref a), .val (.ref ob), .unset] [(.ref ob)])) rfl rfl (hb hby own_d11_1)
  refine own_by (T' := T1) (g' := (mkF m 4 #[.val (.ref a), .val (.ref ob), .unset] [(.int (1 : Int32))])) st1 ?_
  refine own_by (T' := T1) (g' := (mkF m 7 #[.val (.ref a), .val (.ref ob), .unset] [])) (fun _ kt_ => XS.ifNo X1.here hx rfl (hb hby own_d11_4) rfl (XT.i0_eq_f (by decide)) kt_) ?_
  refine own_by (T' := T1) (g' := (mkF m 8 #[.val (.ref a), .val (.ref ob), .unset] [(.ref ob)])) (fun _ kt_ => XS.aloadN X1.here hx rfl (hb hby own_d11_7) rfl rfl kt_) ?_
  obtain ⟨T2, X2, e2, st2⟩ := castY X1 hx hZ hown (hw _ (List.mem_of_getElem? (i := 61) rfl)) e1 (Ins.self Eo) (g := (mkF m 8 #[.val (.ref a), .val (.ref ob), .unset] [(.ref ob)])) rfl rfl (hb hby own_d11_8)
  refine own_by (T' := T2) (g' := (mkF m 11 #[.val (.ref a), .val (.ref ob), .unset] [(.ref ob)])) st2 ?_
  refine own_by (T' := T2) (g' := (mkF m 12 #[.val (.ref a), .val (.ref ob), .val (.ref ob)] [])) (fun _ kt_ => XS.astoreN X2.here hx rfl (hb hby own_d11_11) rfl rfl (l' := #[.val (.ref a), .val (.ref ob), .val (.ref ob)]) rfl kt_) ?_
  refine own_by (T' := T2) (g' := (mkF m 13 #[.val (.ref a), .val (.ref ob), .val (.ref ob)] [(.ref ob)])) (fun _ kt_ => XS.aloadN X2.here hx rfl (hb hby own_d11_12) rfl rfl kt_) ?_
  obtain ⟨T3, X3, e3, st3⟩ := getF X2 hx hZ hown (host := "") (Or.inl (hw _ (List.mem_of_getElem? (i := 54) rfl))) Via.refl e2 Fo (g := (mkF m 13 #[.val (.ref a), .val (.ref ob), .val (.ref ob)] [(.ref ob)])) rfl rfl (hb hby own_d11_13)
  refine own_by (T' := T3) (g' := (mkF m 16 #[.val (.ref a), .val (.ref ob), .val (.ref ob)] [(.ref x)])) st3 ?_
  refine own_by (T' := T3) (g' := (mkF m 17 #[.val (.ref a), .val (.ref ob), .val (.ref ob)] [(.ref a), (.ref x)])) (fun _ kt_ => XS.aloadN X3.here hx rfl (hb hby own_d11_16) rfl rfl kt_) ?_
  obtain ⟨T4, X4, e4, st4⟩ := getF X3 hx hZ hown (host := "") (Or.inl (hw _ (List.mem_of_getElem? (i := 54) rfl))) Via.refl e3 Fa (g := (mkF m 17 #[.val (.ref a), .val (.ref ob), .val (.ref ob)] [(.ref a), (.ref x)])) rfl rfl (hb hby own_d11_17)
  refine own_by (T' := T4) (g' := (mkF m 20 #[.val (.ref a), .val (.ref ob), .val (.ref ob)] [(.ref y), (.ref x)])) st4 ?_
  obtain ⟨cq5, kq5, q5a, q5b, q5c⟩ := isOf hZ e4 Ex
  obtain ⟨_, _, ⟨T5, L5, k5, n5⟩, -, X5, ⟨Lc5, hQ5, l5, y5, z5⟩, st5⟩ := X4.virtualBack hx (y := (⟨"java/lang/String", "equals", "(Ljava/lang/Object;)Z"⟩ : MethodName)) (z := (⟨"java/lang/String", "equals", "(Ljava/lang/Object;)Z"⟩ : MethodName)) hown (mvT hZ (hw _ (List.mem_of_getElem? (i := 63) rfl))) (mvT hZ (hw _ (List.mem_of_getElem? (i := 64) rfl))) (notFace_of_selects (args := #[]) (mvT hZ (hw _ (List.mem_of_getElem? (i := 66) rfl)))) (mvT hZ (hw _ (List.mem_of_getElem? (i := 66) rfl))) (mvT hZ (hw _ (List.mem_of_getElem? (i := 65) rfl))) (by decide) (backOf (W := 0) (rmSEq_1_3 l Z a0 hw [] zC GS x y d1 d2 k1 k2 b0 c0 c1 c2 h0 n0 (by omega) O0 hxy Ey Fc1 Fc2 Fv1 Fv2 V1 V2) hZ (hw _ (List.mem_of_getElem? (i := 67) rfl)) (hw _ (List.mem_of_getElem? (i := 6) rfl)) (by decide) (by decide)) q5a q5c (g := (mkF m 20 #[.val (.ref a), .val (.ref ob), .val (.ref ob)] [(.ref y), (.ref x)])) rfl (by rw [hml]; rfl) (Steps.refl _) (argsL := [(.ref y)]) (rest := []) (lenOf own_pd_7 rfl) rfl (by show 2 * 0 + _ ≤ _; exact Nat.le_of_eq rfl) (hb hby own_d11_20) (fun _ _ => ⟨rfl, e4, (by decide : 0 + 0 ≤ _), (by decide : 0 + 0 ≤ _)⟩)
  dsimp only [Pt.U, Pt.locs, Pt.cells, Pt.slots] at X5 l5 y5 z5 st5 hQ5
  subst l5 y5 z5
  obtain ⟨rfl, N5q, e5⟩ := hQ5
  have N6 := Fr.app N0 N5q
  refine own_by (T' := T5) (g' := (mkF m 23 #[.val (.ref a), .val (.ref ob), .val (.ref ob)] [(.int (0 : Int32))])) (fun _ kt_ => st5.trans kt_) ?_
  refine own_by (T' := T5) (g' := (mkF m 30 #[.val (.ref a), .val (.ref ob), .val (.ref ob)] [])) (fun _ kt_ => XS.ifYes X5.here hx rfl (pc0 := 23) (pc' := 30) rfl (hb hby own_d11_23) rfl (XT.i0_eq_t (by decide)) (by decide) (by decide) kt_) ?_
  refine own_by (T' := T5) (g' := (mkF m 31 #[.val (.ref a), .val (.ref ob), .val (.ref ob)] [(.int (0 : Int32))])) (fun _ kt_ => XS.iconst X5.here hx rfl (hb hby own_d11_30) kt_) ?_
  have hn7 : nar .boolean (0 : Int32) = (0 : Int32) := rfl
  obtain ⟨fs8, hr8, hrun8, hended8, hW8, hsame8⟩ := X5.leave (v := some (.int (nar .boolean (0 : Int32)))) (fun h => by rw [Bd.returns] at h; cases h)
  refine ⟨_, _, retN X5 hx (t := .boolean) Bd.returns (by simp) (hb hby own_d11_31) hr8, hrun8, hended8, _, _, rfl, ?_, ⟨_, rfl⟩, hW8, hsame8.mono (by decide) (by decide)⟩
  show Q_rmBEq_1_3 Z zC a ob x y d1 d2 k1 k2 b0 c0 c1 c2 h0 n0 _ T5.heap _
  exact ⟨(congrArg (fun z => some (Value.int z)) hn7), N6, e5⟩
theorem own_ef_rmBEq_2_1 (m : MethodId) (x0 : Addr) (x1 : Addr) : entryFrame m #[(.ref x0), (.ref x1)] 3 = mkF m 0 #[.val (.ref x0), .val (.ref x1), .unset] [] := by first | (simp [entryFrame, mkF, argsToLocals, Value.category]; done) | rfl
def Q_rmBEq_2_1 (Z : State) (zC : Int32) (a : Addr) (ob : Addr) (x : Addr) (y : Addr) (d1 : Addr) (d2 : Addr) (k1 : ClassId) (k2 : ClassId) (b0 : Int32) (b1 : Int32) (c0 : Int32) (h0 : Heap) (n0 : Nat) (vv_ : Option Value) (hh_ : Heap) (LL_ : List Loc) : Prop := vv_ = some (.int (0 : Int32)) ∧ Fr n0 LL_ ∧ hh_ = h0
set_option maxRecDepth 65536 in
set_option maxHeartbeats 40000000 in
theorem rmBEq_2_1 (l : Launch) (Z : State) (a0 : Array Value) (hw : ∀ d ∈ tables_1, d.before a0 Z = true) (ws : List Jvm.Cond) (zC : Int32) (GS : Glob Z zC) (a : Addr) (ob : Addr) (x : Addr) (y : Addr) (d1 : Addr) (d2 : Addr) (k1 : ClassId) (k2 : ClassId) (b0 : Int32) (b1 : Int32) (c0 : Int32) (h0 : Heap) (n0 : Nat) (Z0 : n0 ≤ h0.size) (O0 : Old Z n0 h0) (Eo : Exa Z h0 ob "com/example/dependency_wiring/dependencywiring/BeanNameReference") (Fo : Fld Z h0 ob "com/example/dependency_wiring/dependencywiring/BeanNameReference" "beanName" "Ljava/lang/String;" (.ref x)) (Fa : Fld Z h0 a "com/example/dependency_wiring/dependencywiring/BeanNameReference" "beanName" "Ljava/lang/String;" (.ref y)) (hxy : x ≠ y) (Ex : Exa Z h0 x "java/lang/String") (Ey : Exa Z h0 y "java/lang/String") (Fc1 : Fld Z h0 x "java/lang/String" "coder" "B" (.int (0 : Int32))) (Fc2 : Fld Z h0 y "java/lang/String" "coder" "B" (.int (0 : Int32))) (Fv1 : Fld Z h0 x "java/lang/String" "value" "[B" (.ref d1)) (Fv2 : Fld Z h0 y "java/lang/String" "value" "[B" (.ref d2)) (V1 : Arv Z h0 d1 k1 .byte (2 : Int32) [(.int b0), (.int b1)] (.int (0 : Int32))) (V2 : Arv Z h0 d2 k2 .byte (1 : Int32) [(.int c0)] (.int (0 : Int32))) :
    MetFree l (⟨"com/example/dependency_wiring/dependencywiring/BeanNameReference", "equals", "(Ljava/lang/Object;)Z"⟩ : MethodName) (head1 (Jvm.Cond.code (⟨"com/example/dependency_wiring/dependencywiring/BeanNameReference", "equals", "(Ljava/lang/Object;)Z"⟩ : MethodName) prog_21_method_3_code 3 (some .boolean) :: ws) ({ frames := 2, cells := 0, slots := 0, locals := 28 } : Room)) (fun aa_ UU_ => aa_ = #[(.ref a), (.ref ob)] ∧ Z.Warmed39 UU_.vm ∧ UU_.heap = h0) (fun _ _ _ _ _ => True) (fun _ UU_ oo_ UV_ => ∃ vv_ LL_, oo_ = .returned vv_ ∧ Q_rmBEq_2_1 Z zC a ob x y d1 d2 k1 k2 b0 b1 c0 h0 n0 vv_ UV_.heap LL_ ∧ FrameEnd UU_ oo_ UV_ LL_ ({ frames := 2, cells := 0, slots := 0, locals := 28 } : Room).cells ({ frames := 2, cells := 0, slots := 0, locals := 28 } : Room).slots) := by
  refine MetFree.of_bodySF (plainFor_of_name own_pn_com_example_dependency_wiring_dependencywiring_BeanNameReference) hisR ?_
  intro p e s m args below meth c s₁ Bd hml0 hP hK
  obtain ⟨rfl, hZ, hh⟩ := hP
  have hx := Bd.exec
  have hby := Bd.bytes
  have hml : c.maxLocals = 3 := hml0
  have hown : s.vm.findClass "com/example/dependency_wiring/dependencywiring/BeanNameReference" = some m.cls := findClass_of_methodNamed Bd.named
  have hnm := (name_of_methodNamed Bd.named Bd.method).1
  have X0 : Stand p l e ({ frames := 2, cells := 0, slots := 0, locals := 28 } : Room) s m #[(.ref a), (.ref ob)] below meth c s₁ [] 0 0 := Stand.of_body Bd
  have e0 : s₁.heap = h0 := by rw [← hh, Bd.state]; rfl
  have N0 := Fr.nil n0
  have hn0 : Z.heap.size = n0 := O0.1
  have KT0 : Keep h0 h0 [] := Keep.refl _ _
  refine own_enter (Φ := fun oo_ UV_ => ∃ vv_ LL_, oo_ = .returned vv_ ∧ Q_rmBEq_2_1 Z zC a ob x y d1 d2 k1 k2 b0 b1 c0 h0 n0 vv_ UV_.heap LL_ ∧ FrameEnd s oo_ UV_ LL_ ({ frames := 2, cells := 0, slots := 0, locals := 28 } : Room).cells ({ frames := 2, cells := 0, slots := 0, locals := 28 } : Room).slots) (own_ef_rmBEq_2_1 m a ob) ?_
  refine own_by (T' := s₁) (g' := (mkF m 1 #[.val (.ref a), .val (.ref ob), .unset] [(.ref ob)])) (fun _ kt_ => XS.aloadN X0.here hx rfl (hb hby own_d11_0) rfl rfl kt_) ?_
  obtain ⟨T1, X1, e1, st1⟩ := instY X0 hx hZ hown (hw _ (List.mem_of_getElem? (i := 61) rfl)) e0 (Ins.self Eo) (g := (mkF m 1 #[.val (.ref a), .val (.ref ob), .unset] [(.ref ob)])) rfl rfl (hb hby own_d11_1)
  refine own_by (T' := T1) (g' := (mkF m 4 #[.val (.ref a), .val (.ref ob), .unset] [(.int (1 : Int32))])) st1 ?_
  refine own_by (T' := T1) (g' := (mkF m 7 #[.val (.ref a), .val (.ref ob), .unset] [])) (fun _ kt_ => XS.ifNo X1.here hx rfl (hb hby own_d11_4) rfl (XT.i0_eq_f (by decide)) kt_) ?_
  refine own_by (T' := T1) (g' := (mkF m 8 #[.val (.ref a), .val (.ref ob), .unset] [(.ref ob)])) (fun _ kt_ => XS.aloadN X1.here hx rfl (hb hby own_d11_7) rfl rfl kt_) ?_
  obtain ⟨T2, X2, e2, st2⟩ := castY X1 hx hZ hown (hw _ (List.mem_of_getElem? (i := 61) rfl)) e1 (Ins.self Eo) (g := (mkF m 8 #[.val (.ref a), .val (.ref ob), .unset] [(.ref ob)])) rfl rfl (hb hby own_d11_8)
  refine own_by (T' := T2) (g' := (mkF m 11 #[.val (.ref a), .val (.ref ob), .unset] [(.ref ob)])) st2 ?_
  refine own_by (T' := T2) (g' := (mkF m 12 #[.val (.ref a), .val (.ref ob), .val (.ref ob)] [])) (fun _ kt_ => XS.astoreN X2.here hx rfl (hb hby own_d11_11) rfl rfl (l' := #[.val (.ref a), .val (.ref ob), .val (.ref ob)]) rfl kt_) ?_
  refine own_by (T' := T2) (g' := (mkF m 13 #[.val (.ref a), .val (.ref ob), .val (.ref ob)] [(.ref ob)])) (fun _ kt_ => XS.aloadN X2.here hx rfl (hb hby own_d11_12) rfl rfl kt_) ?_
  obtain ⟨T3, X3, e3, st3⟩ := getF X2 hx hZ hown (host := "") (Or.inl (hw _ (List.mem_of_getElem? (i := 54) rfl))) Via.refl e2 Fo (g := (mkF m 13 #[.val (.ref a), .val (.ref ob), .val (.ref ob)] [(.ref ob)])) rfl rfl (hb hby own_d11_13)
  refine own_by (T' := T3) (g' := (mkF m 16 #[.val (.ref a), .val (.ref ob), .val (.ref ob)] [(.ref x)])) st3 ?_
  refine own_by (T' := T3) (g' := (mkF m 17 #[.val (.ref a), .val (.ref ob), .val (.ref ob)] [(.ref a), (.ref x)])) (fun _ kt_ => XS.aloadN X3.here hx rfl (hb hby own_d11_16) rfl rfl kt_) ?_
  obtain ⟨T4, X4, e4, st4⟩ := getF X3 hx hZ hown (host := "") (Or.inl (hw _ (List.mem_of_getElem? (i := 54) rfl))) Via.refl e3 Fa (g := (mkF m 17 #[.val (.ref a), .val (.ref ob), .val (.ref ob)] [(.ref a), (.ref x)])) rfl rfl (hb hby own_d11_17)
  refine own_by (T' := T4) (g' := (mkF m 20 #[.val (.ref a), .val (.ref ob), .val (.ref ob)] [(.ref y), (.ref x)])) st4 ?_
  obtain ⟨cq5, kq5, q5a, q5b, q5c⟩ := isOf hZ e4 Ex
  obtain ⟨_, _, ⟨T5, L5, k5, n5⟩, -, X5, ⟨Lc5, hQ5, l5, y5, z5⟩, st5⟩ := X4.virtualBack hx (y := (⟨"java/lang/String", "equals", "(Ljava/lang/Object;)Z"⟩ : MethodName)) (z := (⟨"java/lang/String", "equals", "(Ljava/lang/Object;)Z"⟩ : MethodName)) hown (mvT hZ (hw _ (List.mem_of_getElem? (i := 63) rfl))) (mvT hZ (hw _ (List.mem_of_getElem? (i := 64) rfl))) (notFace_of_selects (args := #[]) (mvT hZ (hw _ (List.mem_of_getElem? (i := 66) rfl)))) (mvT hZ (hw _ (List.mem_of_getElem? (i := 66) rfl))) (mvT hZ (hw _ (List.mem_of_getElem? (i := 65) rfl))) (by decide) (backOf (W := 0) (rmSEq_2_1 l Z a0 hw [] zC GS x y d1 d2 k1 k2 b0 b1 c0 h0 n0 (by omega) O0 hxy Ey Fc1 Fc2 Fv1 Fv2 V1 V2) hZ (hw _ (List.mem_of_getElem? (i := 67) rfl)) (hw _ (List.mem_of_getElem? (i := 6) rfl)) (by decide) (by decide)) q5a q5c (g := (mkF m 20 #[.val (.ref a), .val (.ref ob), .val (.ref ob)] [(.ref y), (.ref x)])) rfl (by rw [hml]; rfl) (Steps.refl _) (argsL := [(.ref y)]) (rest := []) (lenOf own_pd_7 rfl) rfl (by show 2 * 0 + _ ≤ _; exact Nat.le_of_eq rfl) (hb hby own_d11_20) (fun _ _ => ⟨rfl, e4, (by decide : 0 + 0 ≤ _), (by decide : 0 + 0 ≤ _)⟩)
  dsimp only [Pt.U, Pt.locs, Pt.cells, Pt.slots] at X5 l5 y5 z5 st5 hQ5
  subst l5 y5 z5
  obtain ⟨rfl, N5q, e5⟩ := hQ5
  have N6 := Fr.app N0 N5q
  refine own_by (T' := T5) (g' := (mkF m 23 #[.val (.ref a), .val (.ref ob), .val (.ref ob)] [(.int (0 : Int32))])) (fun _ kt_ => st5.trans kt_) ?_
  refine own_by (T' := T5) (g' := (mkF m 30 #[.val (.ref a), .val (.ref ob), .val (.ref ob)] [])) (fun _ kt_ => XS.ifYes X5.here hx rfl (pc0 := 23) (pc' := 30) rfl (hb hby own_d11_23) rfl (XT.i0_eq_t (by decide)) (by decide) (by decide) kt_) ?_
  refine own_by (T' := T5) (g' := (mkF m 31 #[.val (.ref a), .val (.ref ob), .val (.ref ob)] [(.int (0 : Int32))])) (fun _ kt_ => XS.iconst X5.here hx rfl (hb hby own_d11_30) kt_) ?_
  have hn7 : nar .boolean (0 : Int32) = (0 : Int32) := rfl
  obtain ⟨fs8, hr8, hrun8, hended8, hW8, hsame8⟩ := X5.leave (v := some (.int (nar .boolean (0 : Int32)))) (fun h => by rw [Bd.returns] at h; cases h)
  refine ⟨_, _, retN X5 hx (t := .boolean) Bd.returns (by simp) (hb hby own_d11_31) hr8, hrun8, hended8, _, _, rfl, ?_, ⟨_, rfl⟩, hW8, hsame8.mono (by decide) (by decide)⟩
  show Q_rmBEq_2_1 Z zC a ob x y d1 d2 k1 k2 b0 b1 c0 h0 n0 _ T5.heap _
  exact ⟨(congrArg (fun z => some (Value.int z)) hn7), N6, e5⟩
theorem own_ef_rmBEq_2_2 (m : MethodId) (x0 : Addr) (x1 : Addr) : entryFrame m #[(.ref x0), (.ref x1)] 3 = mkF m 0 #[.val (.ref x0), .val (.ref x1), .unset] [] := by first | (simp [entryFrame, mkF, argsToLocals, Value.category]; done) | rfl
def Q_rmBEq_2_2 (Z : State) (zC : Int32) (a : Addr) (ob : Addr) (x : Addr) (y : Addr) (d1 : Addr) (d2 : Addr) (k1 : ClassId) (k2 : ClassId) (b0 : Int32) (b1 : Int32) (c0 : Int32) (c1 : Int32) (h0 : Heap) (n0 : Nat) (vv_ : Option Value) (hh_ : Heap) (LL_ : List Loc) : Prop := vv_ = some (.int (if b0 = c0 then (if b1 = c1 then (1 : Int32) else (0 : Int32)) else (0 : Int32))) ∧ Fr n0 LL_ ∧ hh_ = h0
set_option maxRecDepth 65536 in
set_option maxHeartbeats 40000000 in
theorem rmBEq_2_2 (l : Launch) (Z : State) (a0 : Array Value) (hw : ∀ d ∈ tables_1, d.before a0 Z = true) (ws : List Jvm.Cond) (zC : Int32) (GS : Glob Z zC) (a : Addr) (ob : Addr) (x : Addr) (y : Addr) (d1 : Addr) (d2 : Addr) (k1 : ClassId) (k2 : ClassId) (b0 : Int32) (b1 : Int32) (c0 : Int32) (c1 : Int32) (h0 : Heap) (n0 : Nat) (Z0 : n0 ≤ h0.size) (O0 : Old Z n0 h0) (Eo : Exa Z h0 ob "com/example/dependency_wiring/dependencywiring/BeanNameReference") (Fo : Fld Z h0 ob "com/example/dependency_wiring/dependencywiring/BeanNameReference" "beanName" "Ljava/lang/String;" (.ref x)) (Fa : Fld Z h0 a "com/example/dependency_wiring/dependencywiring/BeanNameReference" "beanName" "Ljava/lang/String;" (.ref y)) (hxy : x ≠ y) (Ex : Exa Z h0 x "java/lang/String") (Ey : Exa Z h0 y "java/lang/String") (Fc1 : Fld Z h0 x "java/lang/String" "coder" "B" (.int (0 : Int32))) (Fc2 : Fld Z h0 y "java/lang/String" "coder" "B" (.int (0 : Int32))) (Fv1 : Fld Z h0 x "java/lang/String" "value" "[B" (.ref d1)) (Fv2 : Fld Z h0 y "java/lang/String" "value" "[B" (.ref d2)) (V1 : Arv Z h0 d1 k1 .byte (2 : Int32) [(.int b0), (.int b1)] (.int (0 : Int32))) (V2 : Arv Z h0 d2 k2 .byte (2 : Int32) [(.int c0), (.int c1)] (.int (0 : Int32))) :
    MetFree l (⟨"com/example/dependency_wiring/dependencywiring/BeanNameReference", "equals", "(Ljava/lang/Object;)Z"⟩ : MethodName) (head1 (Jvm.Cond.code (⟨"com/example/dependency_wiring/dependencywiring/BeanNameReference", "equals", "(Ljava/lang/Object;)Z"⟩ : MethodName) prog_21_method_3_code 3 (some .boolean) :: ws) ({ frames := 2, cells := 0, slots := 0, locals := 28 } : Room)) (fun aa_ UU_ => aa_ = #[(.ref a), (.ref ob)] ∧ Z.Warmed39 UU_.vm ∧ UU_.heap = h0) (fun _ _ _ _ _ => True) (fun _ UU_ oo_ UV_ => ∃ vv_ LL_, oo_ = .returned vv_ ∧ Q_rmBEq_2_2 Z zC a ob x y d1 d2 k1 k2 b0 b1 c0 c1 h0 n0 vv_ UV_.heap LL_ ∧ FrameEnd UU_ oo_ UV_ LL_ ({ frames := 2, cells := 0, slots := 0, locals := 28 } : Room).cells ({ frames := 2, cells := 0, slots := 0, locals := 28 } : Room).slots) := by
  refine MetFree.of_bodySF (plainFor_of_name own_pn_com_example_dependency_wiring_dependencywiring_BeanNameReference) hisR ?_
  intro p e s m args below meth c s₁ Bd hml0 hP hK
  obtain ⟨rfl, hZ, hh⟩ := hP
  have hx := Bd.exec
  have hby := Bd.bytes
  have hml : c.maxLocals = 3 := hml0
  have hown : s.vm.findClass "com/example/dependency_wiring/dependencywiring/BeanNameReference" = some m.cls := findClass_of_methodNamed Bd.named
  have hnm := (name_of_methodNamed Bd.named Bd.method).1
  have X0 : Stand p l e ({ frames := 2, cells := 0, slots := 0, locals := 28 } : Room) s m #[(.ref a), (.ref ob)] below meth c s₁ [] 0 0 := Stand.of_body Bd
  have e0 : s₁.heap = h0 := by rw [← hh, Bd.state]; rfl
  have N0 := Fr.nil n0
  have hn0 : Z.heap.size = n0 := O0.1
  have KT0 : Keep h0 h0 [] := Keep.refl _ _
  refine own_enter (Φ := fun oo_ UV_ => ∃ vv_ LL_, oo_ = .returned vv_ ∧ Q_rmBEq_2_2 Z zC a ob x y d1 d2 k1 k2 b0 b1 c0 c1 h0 n0 vv_ UV_.heap LL_ ∧ FrameEnd s oo_ UV_ LL_ ({ frames := 2, cells := 0, slots := 0, locals := 28 } : Room).cells ({ frames := 2, cells := 0, slots := 0, locals := 28 } : Room).slots) (own_ef_rmBEq_2_2 m a ob) ?_
  refine own_by (T' := s₁) (g' := (mkF m 1 #[.val (.ref a), .val (.ref ob), .unset] [(.ref ob)])) (fun _ kt_ => XS.aloadN X0.here hx rfl (hb hby own_d11_0) rfl rfl kt_) ?_
  obtain ⟨T1, X1, e1, st1⟩ := instY X0 hx hZ hown (hw _ (List.mem_of_getElem? (i := 61) rfl)) e0 (Ins.self Eo) (g := (mkF m 1 #[.val (.ref a), .val (.ref ob), .unset] [(.ref ob)])) rfl rfl (hb hby own_d11_1)
  refine own_by (T' := T1) (g' := (mkF m 4 #[.val (.ref a), .val (.ref ob), .unset] [(.int (1 : Int32))])) st1 ?_
  refine own_by (T' := T1) (g' := (mkF m 7 #[.val (.ref a), .val (.ref ob), .unset] [])) (fun _ kt_ => XS.ifNo X1.here hx rfl (hb hby own_d11_4) rfl (XT.i0_eq_f (by decide)) kt_) ?_
  refine own_by (T' := T1) (g' := (mkF m 8 #[.val (.ref a), .val (.ref ob), .unset] [(.ref ob)])) (fun _ kt_ => XS.aloadN X1.here hx rfl (hb hby own_d11_7) rfl rfl kt_) ?_
  obtain ⟨T2, X2, e2, st2⟩ := castY X1 hx hZ hown (hw _ (List.mem_of_getElem? (i := 61) rfl)) e1 (Ins.self Eo) (g := (mkF m 8 #[.val (.ref a), .val (.ref ob), .unset] [(.ref ob)])) rfl rfl (hb hby own_d11_8)
  refine own_by (T' := T2) (g' := (mkF m 11 #[.val (.ref a), .val (.ref ob), .unset] [(.ref ob)])) st2 ?_
  refine own_by (T' := T2) (g' := (mkF m 12 #[.val (.ref a), .val (.ref ob), .val (.ref ob)] [])) (fun _ kt_ => XS.astoreN X2.here hx rfl (hb hby own_d11_11) rfl rfl (l' := #[.val (.ref a), .val (.ref ob), .val (.ref ob)]) rfl kt_) ?_
  refine own_by (T' := T2) (g' := (mkF m 13 #[.val (.ref a), .val (.ref ob), .val (.ref ob)] [(.ref ob)])) (fun _ kt_ => XS.aloadN X2.here hx rfl (hb hby own_d11_12) rfl rfl kt_) ?_
  obtain ⟨T3, X3, e3, st3⟩ := getF X2 hx hZ hown (host := "") (Or.inl (hw _ (List.mem_of_getElem? (i := 54) rfl))) Via.refl e2 Fo (g := (mkF m 13 #[.val (.ref a), .val (.ref ob), .val (.ref ob)] [(.ref ob)])) rfl rfl (hb hby own_d11_13)
  refine own_by (T' := T3) (g' := (mkF m 16 #[.val (.ref a), .val (.ref ob), .val (.ref ob)] [(.ref x)])) st3 ?_
  refine own_by (T' := T3) (g' := (mkF m 17 #[.val (.ref a), .val (.ref ob), .val (.ref ob)] [(.ref a), (.ref x)])) (fun _ kt_ => XS.aloadN X3.here hx rfl (hb hby own_d11_16) rfl rfl kt_) ?_
  obtain ⟨T4, X4, e4, st4⟩ := getF X3 hx hZ hown (host := "") (Or.inl (hw _ (List.mem_of_getElem? (i := 54) rfl))) Via.refl e3 Fa (g := (mkF m 17 #[.val (.ref a), .val (.ref ob), .val (.ref ob)] [(.ref a), (.ref x)])) rfl rfl (hb hby own_d11_17)
  refine own_by (T' := T4) (g' := (mkF m 20 #[.val (.ref a), .val (.ref ob), .val (.ref ob)] [(.ref y), (.ref x)])) st4 ?_
  obtain ⟨cq5, kq5, q5a, q5b, q5c⟩ := isOf hZ e4 Ex
  obtain ⟨_, _, ⟨T5, L5, k5, n5⟩, -, X5, ⟨Lc5, hQ5, l5, y5, z5⟩, st5⟩ := X4.virtualBack hx (y := (⟨"java/lang/String", "equals", "(Ljava/lang/Object;)Z"⟩ : MethodName)) (z := (⟨"java/lang/String", "equals", "(Ljava/lang/Object;)Z"⟩ : MethodName)) hown (mvT hZ (hw _ (List.mem_of_getElem? (i := 63) rfl))) (mvT hZ (hw _ (List.mem_of_getElem? (i := 64) rfl))) (notFace_of_selects (args := #[]) (mvT hZ (hw _ (List.mem_of_getElem? (i := 66) rfl)))) (mvT hZ (hw _ (List.mem_of_getElem? (i := 66) rfl))) (mvT hZ (hw _ (List.mem_of_getElem? (i := 65) rfl))) (by decide) (backOf (W := 0) (rmSEq_2_2 l Z a0 hw [] zC GS x y d1 d2 k1 k2 b0 b1 c0 c1 h0 n0 (by omega) O0 hxy Ey Fc1 Fc2 Fv1 Fv2 V1 V2) hZ (hw _ (List.mem_of_getElem? (i := 67) rfl)) (hw _ (List.mem_of_getElem? (i := 6) rfl)) (by decide) (by decide)) q5a q5c (g := (mkF m 20 #[.val (.ref a), .val (.ref ob), .val (.ref ob)] [(.ref y), (.ref x)])) rfl (by rw [hml]; rfl) (Steps.refl _) (argsL := [(.ref y)]) (rest := []) (lenOf own_pd_7 rfl) rfl (by show 2 * 0 + _ ≤ _; exact Nat.le_of_eq rfl) (hb hby own_d11_20) (fun _ _ => ⟨rfl, e4, (by decide : 0 + 0 ≤ _), (by decide : 0 + 0 ≤ _)⟩)
  dsimp only [Pt.U, Pt.locs, Pt.cells, Pt.slots] at X5 l5 y5 z5 st5 hQ5
  subst l5 y5 z5
  obtain ⟨rfl, N5q, e5⟩ := hQ5
  have N6 := Fr.app N0 N5q
  refine own_by (T' := T5) (g' := (mkF m 23 #[.val (.ref a), .val (.ref ob), .val (.ref ob)] [(.int (if b0 = c0 then (if b1 = c1 then (1 : Int32) else (0 : Int32)) else (0 : Int32)))])) (fun _ kt_ => st5.trans kt_) ?_
  by_cases hc7 : (if b0 = c0 then (if b1 = c1 then (1 : Int32) else (0 : Int32)) else (0 : Int32)) = (0 : Int32)
  · refine own_by (T' := T5) (g' := (mkF m 30 #[.val (.ref a), .val (.ref ob), .val (.ref ob)] [])) (fun _ kt_ => XS.ifYes X5.here hx rfl (pc0 := 23) (pc' := 30) rfl (hb hby own_d11_23) rfl (XT.i0_eq_t hc7) (by decide) (by decide) kt_) ?_
    refine own_by (T' := T5) (g' := (mkF m 31 #[.val (.ref a), .val (.ref ob), .val (.ref ob)] [(.int (0 : Int32))])) (fun _ kt_ => XS.iconst X5.here hx rfl (hb hby own_d11_30) kt_) ?_
    have hn8 : nar .boolean (0 : Int32) = (0 : Int32) := rfl
    have hr9 : (0 : Int32) = (if b0 = c0 then (if b1 = c1 then (1 : Int32) else (0 : Int32)) else (0 : Int32)) := by first | rfl | (revert hc7; (repeat' split) <;> simp_all) | (revert hc7; simp)
    obtain ⟨fs10, hr10, hrun10, hended10, hW10, hsame10⟩ := X5.leave (v := some (.int (nar .boolean (0 : Int32)))) (fun h => by rw [Bd.returns] at h; cases h)
    refine ⟨_, _, retN X5 hx (t := .boolean) Bd.returns (by simp) (hb hby own_d11_31) hr10, hrun10, hended10, _, _, rfl, ?_, ⟨_, rfl⟩, hW10, hsame10.mono (by decide) (by decide)⟩
    show Q_rmBEq_2_2 Z zC a ob x y d1 d2 k1 k2 b0 b1 c0 c1 h0 n0 _ T5.heap _
    exact ⟨(congrArg (fun z => some (Value.int z)) (hn8.trans hr9)), N6, e5⟩
  · refine own_by (T' := T5) (g' := (mkF m 26 #[.val (.ref a), .val (.ref ob), .val (.ref ob)] [])) (fun _ kt_ => XS.ifNo X5.here hx rfl (hb hby own_d11_23) rfl (XT.i0_eq_f hc7) kt_) ?_
    refine own_by (T' := T5) (g' := (mkF m 27 #[.val (.ref a), .val (.ref ob), .val (.ref ob)] [(.int (1 : Int32))])) (fun _ kt_ => XS.iconst X5.here hx rfl (hb hby own_d11_26) kt_) ?_
    refine own_by (T' := T5) (g' := (mkF m 31 #[.val (.ref a), .val (.ref ob), .val (.ref ob)] [(.int (1 : Int32))])) (fun _ kt_ => XS.goto X5.here hx rfl (pc0 := 27) (pc' := 31) rfl (hb hby own_d11_27) (by decide) (by decide) kt_) ?_
    have hn11 : nar .boolean (1 : Int32) = (1 : Int32) := rfl
    have hr12 : (1 : Int32) = (if b0 = c0 then (if b1 = c1 then (1 : Int32) else (0 : Int32)) else (0 : Int32)) := by first | rfl | (revert hc7; (repeat' split) <;> simp_all) | (revert hc7; simp)
    obtain ⟨fs13, hr13, hrun13, hended13, hW13, hsame13⟩ := X5.leave (v := some (.int (nar .boolean (1 : Int32)))) (fun h => by rw [Bd.returns] at h; cases h)
    refine ⟨_, _, retN X5 hx (t := .boolean) Bd.returns (by simp) (hb hby own_d11_31) hr13, hrun13, hended13, _, _, rfl, ?_, ⟨_, rfl⟩, hW13, hsame13.mono (by decide) (by decide)⟩
    show Q_rmBEq_2_2 Z zC a ob x y d1 d2 k1 k2 b0 b1 c0 c1 h0 n0 _ T5.heap _
    exact ⟨(congrArg (fun z => some (Value.int z)) (hn11.trans hr12)), N6, e5⟩
theorem own_ef_rmBEq_2_3 (m : MethodId) (x0 : Addr) (x1 : Addr) : entryFrame m #[(.ref x0), (.ref x1)] 3 = mkF m 0 #[.val (.ref x0), .val (.ref x1), .unset] [] := by first | (simp [entryFrame, mkF, argsToLocals, Value.category]; done) | rfl
def Q_rmBEq_2_3 (Z : State) (zC : Int32) (a : Addr) (ob : Addr) (x : Addr) (y : Addr) (d1 : Addr) (d2 : Addr) (k1 : ClassId) (k2 : ClassId) (b0 : Int32) (b1 : Int32) (c0 : Int32) (c1 : Int32) (c2 : Int32) (h0 : Heap) (n0 : Nat) (vv_ : Option Value) (hh_ : Heap) (LL_ : List Loc) : Prop := vv_ = some (.int (0 : Int32)) ∧ Fr n0 LL_ ∧ hh_ = h0
set_option maxRecDepth 65536 in
set_option maxHeartbeats 40000000 in
theorem rmBEq_2_3 (l : Launch) (Z : State) (a0 : Array Value) (hw : ∀ d ∈ tables_1, d.before a0 Z = true) (ws : List Jvm.Cond) (zC : Int32) (GS : Glob Z zC) (a : Addr) (ob : Addr) (x : Addr) (y : Addr) (d1 : Addr) (d2 : Addr) (k1 : ClassId) (k2 : ClassId) (b0 : Int32) (b1 : Int32) (c0 : Int32) (c1 : Int32) (c2 : Int32) (h0 : Heap) (n0 : Nat) (Z0 : n0 ≤ h0.size) (O0 : Old Z n0 h0) (Eo : Exa Z h0 ob "com/example/dependency_wiring/dependencywiring/BeanNameReference") (Fo : Fld Z h0 ob "com/example/dependency_wiring/dependencywiring/BeanNameReference" "beanName" "Ljava/lang/String;" (.ref x)) (Fa : Fld Z h0 a "com/example/dependency_wiring/dependencywiring/BeanNameReference" "beanName" "Ljava/lang/String;" (.ref y)) (hxy : x ≠ y) (Ex : Exa Z h0 x "java/lang/String") (Ey : Exa Z h0 y "java/lang/String") (Fc1 : Fld Z h0 x "java/lang/String" "coder" "B" (.int (0 : Int32))) (Fc2 : Fld Z h0 y "java/lang/String" "coder" "B" (.int (0 : Int32))) (Fv1 : Fld Z h0 x "java/lang/String" "value" "[B" (.ref d1)) (Fv2 : Fld Z h0 y "java/lang/String" "value" "[B" (.ref d2)) (V1 : Arv Z h0 d1 k1 .byte (2 : Int32) [(.int b0), (.int b1)] (.int (0 : Int32))) (V2 : Arv Z h0 d2 k2 .byte (3 : Int32) [(.int c0), (.int c1), (.int c2)] (.int (0 : Int32))) :
    MetFree l (⟨"com/example/dependency_wiring/dependencywiring/BeanNameReference", "equals", "(Ljava/lang/Object;)Z"⟩ : MethodName) (head1 (Jvm.Cond.code (⟨"com/example/dependency_wiring/dependencywiring/BeanNameReference", "equals", "(Ljava/lang/Object;)Z"⟩ : MethodName) prog_21_method_3_code 3 (some .boolean) :: ws) ({ frames := 2, cells := 0, slots := 0, locals := 28 } : Room)) (fun aa_ UU_ => aa_ = #[(.ref a), (.ref ob)] ∧ Z.Warmed39 UU_.vm ∧ UU_.heap = h0) (fun _ _ _ _ _ => True) (fun _ UU_ oo_ UV_ => ∃ vv_ LL_, oo_ = .returned vv_ ∧ Q_rmBEq_2_3 Z zC a ob x y d1 d2 k1 k2 b0 b1 c0 c1 c2 h0 n0 vv_ UV_.heap LL_ ∧ FrameEnd UU_ oo_ UV_ LL_ ({ frames := 2, cells := 0, slots := 0, locals := 28 } : Room).cells ({ frames := 2, cells := 0, slots := 0, locals := 28 } : Room).slots) := by
  refine MetFree.of_bodySF (plainFor_of_name own_pn_com_example_dependency_wiring_dependencywiring_BeanNameReference) hisR ?_
  intro p e s m args below meth c s₁ Bd hml0 hP hK
  obtain ⟨rfl, hZ, hh⟩ := hP
  have hx := Bd.exec
  have hby := Bd.bytes
  have hml : c.maxLocals = 3 := hml0
  have hown : s.vm.findClass "com/example/dependency_wiring/dependencywiring/BeanNameReference" = some m.cls := findClass_of_methodNamed Bd.named
  have hnm := (name_of_methodNamed Bd.named Bd.method).1
  have X0 : Stand p l e ({ frames := 2, cells := 0, slots := 0, locals := 28 } : Room) s m #[(.ref a), (.ref ob)] below meth c s₁ [] 0 0 := Stand.of_body Bd
  have e0 : s₁.heap = h0 := by rw [← hh, Bd.state]; rfl
  have N0 := Fr.nil n0
  have hn0 : Z.heap.size = n0 := O0.1
  have KT0 : Keep h0 h0 [] := Keep.refl _ _
  refine own_enter (Φ := fun oo_ UV_ => ∃ vv_ LL_, oo_ = .returned vv_ ∧ Q_rmBEq_2_3 Z zC a ob x y d1 d2 k1 k2 b0 b1 c0 c1 c2 h0 n0 vv_ UV_.heap LL_ ∧ FrameEnd s oo_ UV_ LL_ ({ frames := 2, cells := 0, slots := 0, locals := 28 } : Room).cells ({ frames := 2, cells := 0, slots := 0, locals := 28 } : Room).slots) (own_ef_rmBEq_2_3 m a ob) ?_
  refine own_by (T' := s₁) (g' := (mkF m 1 #[.val (.ref a), .val (.ref ob), .unset] [(.ref ob)])) (fun _ kt_ => XS.aloadN X0.here hx rfl (hb hby own_d11_0) rfl rfl kt_) ?_
  obtain ⟨T1, X1, e1, st1⟩ := instY X0 hx hZ hown (hw _ (List.mem_of_getElem? (i := 61) rfl)) e0 (Ins.self Eo) (g := (mkF m 1 #[.val (.ref a), .val (.ref ob), .unset] [(.ref ob)])) rfl rfl (hb hby own_d11_1)
  refine own_by (T' := T1) (g' := (mkF m 4 #[.val (.ref a), .val (.ref ob), .unset] [(.int (1 : Int32))])) st1 ?_
  refine own_by (T' := T1) (g' := (mkF m 7 #[.val (.ref a), .val (.ref ob), .unset] [])) (fun _ kt_ => XS.ifNo X1.here hx rfl (hb hby own_d11_4) rfl (XT.i0_eq_f (by decide)) kt_) ?_
  refine own_by (T' := T1) (g' := (mkF m 8 #[.val (.ref a), .val (.ref ob), .unset] [(.ref ob)])) (fun _ kt_ => XS.aloadN X1.here hx rfl (hb hby own_d11_7) rfl rfl kt_) ?_
  obtain ⟨T2, X2, e2, st2⟩ := castY X1 hx hZ hown (hw _ (List.mem_of_getElem? (i := 61) rfl)) e1 (Ins.self Eo) (g := (mkF m 8 #[.val (.ref a), .val (.ref ob), .unset] [(.ref ob)])) rfl rfl (hb hby own_d11_8)
  refine own_by (T' := T2) (g' := (mkF m 11 #[.val (.ref a), .val (.ref ob), .unset] [(.ref ob)])) st2 ?_
  refine own_by (T' := T2) (g' := (mkF m 12 #[.val (.ref a), .val (.ref ob), .val (.ref ob)] [])) (fun _ kt_ => XS.astoreN X2.here hx rfl (hb hby own_d11_11) rfl rfl (l' := #[.val (.ref a), .val (.ref ob), .val (.ref ob)]) rfl kt_) ?_
  refine own_by (T' := T2) (g' := (mkF m 13 #[.val (.ref a), .val (.ref ob), .val (.ref ob)] [(.ref ob)])) (fun _ kt_ => XS.aloadN X2.here hx rfl (hb hby own_d11_12) rfl rfl kt_) ?_
  obtain ⟨T3, X3, e3, st3⟩ := getF X2 hx hZ hown (host := "") (Or.inl (hw _ (List.mem_of_getElem? (i := 54) rfl))) Via.refl e2 Fo (g := (mkF m 13 #[.val (.ref a), .val (.ref ob), .val (.ref ob)] [(.ref ob)])) rfl rfl (hb hby own_d11_13)
  refine own_by (T' := T3) (g' := (mkF m 16 #[.val (.ref a), .val (.ref ob), .val (.ref ob)] [(.ref x)])) st3 ?_
  refine own_by (T' := T3) (g' := (mkF m 17 #[.val (.ref a), .val (.ref ob), .val (.ref ob)] [(.ref a), (.ref x)])) (fun _ kt_ => XS.aloadN X3.here hx rfl (hb hby own_d11_16) rfl rfl kt_) ?_
  obtain ⟨T4, X4, e4, st4⟩ := getF X3 hx hZ hown (host := "") (Or.inl (hw _ (List.mem_of_getElem? (i := 54) rfl))) Via.refl e3 Fa (g := (mkF m 17 #[.val (.ref a), .val (.ref ob), .val (.ref ob)] [(.ref a), (.ref x)])) rfl rfl (hb hby own_d11_17)
  refine own_by (T' := T4) (g' := (mkF m 20 #[.val (.ref a), .val (.ref ob), .val (.ref ob)] [(.ref y), (.ref x)])) st4 ?_
  obtain ⟨cq5, kq5, q5a, q5b, q5c⟩ := isOf hZ e4 Ex
  obtain ⟨_, _, ⟨T5, L5, k5, n5⟩, -, X5, ⟨Lc5, hQ5, l5, y5, z5⟩, st5⟩ := X4.virtualBack hx (y := (⟨"java/lang/String", "equals", "(Ljava/lang/Object;)Z"⟩ : MethodName)) (z := (⟨"java/lang/String", "equals", "(Ljava/lang/Object;)Z"⟩ : MethodName)) hown (mvT hZ (hw _ (List.mem_of_getElem? (i := 63) rfl))) (mvT hZ (hw _ (List.mem_of_getElem? (i := 64) rfl))) (notFace_of_selects (args := #[]) (mvT hZ (hw _ (List.mem_of_getElem? (i := 66) rfl)))) (mvT hZ (hw _ (List.mem_of_getElem? (i := 66) rfl))) (mvT hZ (hw _ (List.mem_of_getElem? (i := 65) rfl))) (by decide) (backOf (W := 0) (rmSEq_2_3 l Z a0 hw [] zC GS x y d1 d2 k1 k2 b0 b1 c0 c1 c2 h0 n0 (by omega) O0 hxy Ey Fc1 Fc2 Fv1 Fv2 V1 V2) hZ (hw _ (List.mem_of_getElem? (i := 67) rfl)) (hw _ (List.mem_of_getElem? (i := 6) rfl)) (by decide) (by decide)) q5a q5c (g := (mkF m 20 #[.val (.ref a), .val (.ref ob), .val (.ref ob)] [(.ref y), (.ref x)])) rfl (by rw [hml]; rfl) (Steps.refl _) (argsL := [(.ref y)]) (rest := []) (lenOf own_pd_7 rfl) rfl (by show 2 * 0 + _ ≤ _; exact Nat.le_of_eq rfl) (hb hby own_d11_20) (fun _ _ => ⟨rfl, e4, (by decide : 0 + 0 ≤ _), (by decide : 0 + 0 ≤ _)⟩)
  dsimp only [Pt.U, Pt.locs, Pt.cells, Pt.slots] at X5 l5 y5 z5 st5 hQ5
  subst l5 y5 z5
  obtain ⟨rfl, N5q, e5⟩ := hQ5
  have N6 := Fr.app N0 N5q
  refine own_by (T' := T5) (g' := (mkF m 23 #[.val (.ref a), .val (.ref ob), .val (.ref ob)] [(.int (0 : Int32))])) (fun _ kt_ => st5.trans kt_) ?_
  refine own_by (T' := T5) (g' := (mkF m 30 #[.val (.ref a), .val (.ref ob), .val (.ref ob)] [])) (fun _ kt_ => XS.ifYes X5.here hx rfl (pc0 := 23) (pc' := 30) rfl (hb hby own_d11_23) rfl (XT.i0_eq_t (by decide)) (by decide) (by decide) kt_) ?_
  refine own_by (T' := T5) (g' := (mkF m 31 #[.val (.ref a), .val (.ref ob), .val (.ref ob)] [(.int (0 : Int32))])) (fun _ kt_ => XS.iconst X5.here hx rfl (hb hby own_d11_30) kt_) ?_
  have hn7 : nar .boolean (0 : Int32) = (0 : Int32) := rfl
  obtain ⟨fs8, hr8, hrun8, hended8, hW8, hsame8⟩ := X5.leave (v := some (.int (nar .boolean (0 : Int32)))) (fun h => by rw [Bd.returns] at h; cases h)
  refine ⟨_, _, retN X5 hx (t := .boolean) Bd.returns (by simp) (hb hby own_d11_31) hr8, hrun8, hended8, _, _, rfl, ?_, ⟨_, rfl⟩, hW8, hsame8.mono (by decide) (by decide)⟩
  show Q_rmBEq_2_3 Z zC a ob x y d1 d2 k1 k2 b0 b1 c0 c1 c2 h0 n0 _ T5.heap _
  exact ⟨(congrArg (fun z => some (Value.int z)) hn7), N6, e5⟩
theorem own_ef_rmBEq_3_1 (m : MethodId) (x0 : Addr) (x1 : Addr) : entryFrame m #[(.ref x0), (.ref x1)] 3 = mkF m 0 #[.val (.ref x0), .val (.ref x1), .unset] [] := by first | (simp [entryFrame, mkF, argsToLocals, Value.category]; done) | rfl
def Q_rmBEq_3_1 (Z : State) (zC : Int32) (a : Addr) (ob : Addr) (x : Addr) (y : Addr) (d1 : Addr) (d2 : Addr) (k1 : ClassId) (k2 : ClassId) (b0 : Int32) (b1 : Int32) (b2 : Int32) (c0 : Int32) (h0 : Heap) (n0 : Nat) (vv_ : Option Value) (hh_ : Heap) (LL_ : List Loc) : Prop := vv_ = some (.int (0 : Int32)) ∧ Fr n0 LL_ ∧ hh_ = h0
set_option maxRecDepth 65536 in
set_option maxHeartbeats 40000000 in
theorem rmBEq_3_1 (l : Launch) (Z : State) (a0 : Array Value) (hw : ∀ d ∈ tables_1, d.before a0 Z = true) (ws : List Jvm.Cond) (zC : Int32) (GS : Glob Z zC) (a : Addr) (ob : Addr) (x : Addr) (y : Addr) (d1 : Addr) (d2 : Addr) (k1 : ClassId) (k2 : ClassId) (b0 : Int32) (b1 : Int32) (b2 : Int32) (c0 : Int32) (h0 : Heap) (n0 : Nat) (Z0 : n0 ≤ h0.size) (O0 : Old Z n0 h0) (Eo : Exa Z h0 ob "com/example/dependency_wiring/dependencywiring/BeanNameReference") (Fo : Fld Z h0 ob "com/example/dependency_wiring/dependencywiring/BeanNameReference" "beanName" "Ljava/lang/String;" (.ref x)) (Fa : Fld Z h0 a "com/example/dependency_wiring/dependencywiring/BeanNameReference" "beanName" "Ljava/lang/String;" (.ref y)) (hxy : x ≠ y) (Ex : Exa Z h0 x "java/lang/String") (Ey : Exa Z h0 y "java/lang/String") (Fc1 : Fld Z h0 x "java/lang/String" "coder" "B" (.int (0 : Int32))) (Fc2 : Fld Z h0 y "java/lang/String" "coder" "B" (.int (0 : Int32))) (Fv1 : Fld Z h0 x "java/lang/String" "value" "[B" (.ref d1)) (Fv2 : Fld Z h0 y "java/lang/String" "value" "[B" (.ref d2)) (V1 : Arv Z h0 d1 k1 .byte (3 : Int32) [(.int b0), (.int b1), (.int b2)] (.int (0 : Int32))) (V2 : Arv Z h0 d2 k2 .byte (1 : Int32) [(.int c0)] (.int (0 : Int32))) :
    MetFree l (⟨"com/example/dependency_wiring/dependencywiring/BeanNameReference", "equals", "(Ljava/lang/Object;)Z"⟩ : MethodName) (head1 (Jvm.Cond.code (⟨"com/example/dependency_wiring/dependencywiring/BeanNameReference", "equals", "(Ljava/lang/Object;)Z"⟩ : MethodName) prog_21_method_3_code 3 (some .boolean) :: ws) ({ frames := 2, cells := 0, slots := 0, locals := 28 } : Room)) (fun aa_ UU_ => aa_ = #[(.ref a), (.ref ob)] ∧ Z.Warmed39 UU_.vm ∧ UU_.heap = h0) (fun _ _ _ _ _ => True) (fun _ UU_ oo_ UV_ => ∃ vv_ LL_, oo_ = .returned vv_ ∧ Q_rmBEq_3_1 Z zC a ob x y d1 d2 k1 k2 b0 b1 b2 c0 h0 n0 vv_ UV_.heap LL_ ∧ FrameEnd UU_ oo_ UV_ LL_ ({ frames := 2, cells := 0, slots := 0, locals := 28 } : Room).cells ({ frames := 2, cells := 0, slots := 0, locals := 28 } : Room).slots) := by
  refine MetFree.of_bodySF (plainFor_of_name own_pn_com_example_dependency_wiring_dependencywiring_BeanNameReference) hisR ?_
  intro p e s m args below meth c s₁ Bd hml0 hP hK
  obtain ⟨rfl, hZ, hh⟩ := hP
  have hx := Bd.exec
  have hby := Bd.bytes
  have hml : c.maxLocals = 3 := hml0
  have hown : s.vm.findClass "com/example/dependency_wiring/dependencywiring/BeanNameReference" = some m.cls := findClass_of_methodNamed Bd.named
  have hnm := (name_of_methodNamed Bd.named Bd.method).1
  have X0 : Stand p l e ({ frames := 2, cells := 0, slots := 0, locals := 28 } : Room) s m #[(.ref a), (.ref ob)] below meth c s₁ [] 0 0 := Stand.of_body Bd
  have e0 : s₁.heap = h0 := by rw [← hh, Bd.state]; rfl
  have N0 := Fr.nil n0
  have hn0 : Z.heap.size = n0 := O0.1
  have KT0 : Keep h0 h0 [] := Keep.refl _ _
  refine own_enter (Φ := fun oo_ UV_ => ∃ vv_ LL_, oo_ = .returned vv_ ∧ Q_rmBEq_3_1 Z zC a ob x y d1 d2 k1 k2 b0 b1 b2 c0 h0 n0 vv_ UV_.heap LL_ ∧ FrameEnd s oo_ UV_ LL_ ({ frames := 2, cells := 0, slots := 0, locals := 28 } : Room).cells ({ frames := 2, cells := 0, slots := 0, locals := 28 } : Room).slots) (own_ef_rmBEq_3_1 m a ob) ?_
  refine own_by (T' := s₁) (g' := (mkF m 1 #[.val (.ref a), .val (.ref ob), .unset] [(.ref ob)])) (fun _ kt_ => XS.aloadN X0.here hx rfl (hb hby own_d11_0) rfl rfl kt_) ?_
  obtain ⟨T1, X1, e1, st1⟩ := instY X0 hx hZ hown (hw _ (List.mem_of_getElem? (i := 61) rfl)) e0 (Ins.self Eo) (g := (mkF m 1 #[.val (.ref a), .val (.ref ob), .unset] [(.ref ob)])) rfl rfl (hb hby own_d11_1)
  refine own_by (T' := T1) (g' := (mkF m 4 #[.val (.ref a), .val (.ref ob), .unset] [(.int (1 : Int32))])) st1 ?_
  refine own_by (T' := T1) (g' := (mkF m 7 #[.val (.ref a), .val (.ref ob), .unset] [])) (fun _ kt_ => XS.ifNo X1.here hx rfl (hb hby own_d11_4) rfl (XT.i0_eq_f (by decide)) kt_) ?_
  refine own_by (T' := T1) (g' := (mkF m 8 #[.val (.ref a), .val (.ref ob), .unset] [(.ref ob)])) (fun _ kt_ => XS.aloadN X1.here hx rfl (hb hby own_d11_7) rfl rfl kt_) ?_
  obtain ⟨T2, X2, e2, st2⟩ := castY X1 hx hZ hown (hw _ (List.mem_of_getElem? (i := 61) rfl)) e1 (Ins.self Eo) (g := (mkF m 8 #[.val (.ref a), .val (.ref ob), .unset] [(.ref ob)])) rfl rfl (hb hby own_d11_8)
  refine own_by (T' := T2) (g' := (mkF m 11 #[.val (.ref a), .val (.ref ob), .unset] [(.ref ob)])) st2 ?_
  refine own_by (T' := T2) (g' := (mkF m 12 #[.val (.ref a), .val (.ref ob), .val (.ref ob)] [])) (fun _ kt_ => XS.astoreN X2.here hx rfl (hb hby own_d11_11) rfl rfl (l' := #[.val (.ref a), .val (.ref ob), .val (.ref ob)]) rfl kt_) ?_
  refine own_by (T' := T2) (g' := (mkF m 13 #[.val (.ref a), .val (.ref ob), .val (.ref ob)] [(.ref ob)])) (fun _ kt_ => XS.aloadN X2.here hx rfl (hb hby own_d11_12) rfl rfl kt_) ?_
  obtain ⟨T3, X3, e3, st3⟩ := getF X2 hx hZ hown (host := "") (Or.inl (hw _ (List.mem_of_getElem? (i := 54) rfl))) Via.refl e2 Fo (g := (mkF m 13 #[.val (.ref a), .val (.ref ob), .val (.ref ob)] [(.ref ob)])) rfl rfl (hb hby own_d11_13)
  refine own_by (T' := T3) (g' := (mkF m 16 #[.val (.ref a), .val (.ref ob), .val (.ref ob)] [(.ref x)])) st3 ?_
  refine own_by (T' := T3) (g' := (mkF m 17 #[.val (.ref a), .val (.ref ob), .val (.ref ob)] [(.ref a), (.ref x)])) (fun _ kt_ => XS.aloadN X3.here hx rfl (hb hby own_d11_16) rfl rfl kt_) ?_
  obtain ⟨T4, X4, e4, st4⟩ := getF X3 hx hZ hown (host := "") (Or.inl (hw _ (List.mem_of_getElem? (i := 54) rfl))) Via.refl e3 Fa (g := (mkF m 17 #[.val (.ref a), .val (.ref ob), .val (.ref ob)] [(.ref a), (.ref x)])) rfl rfl (hb hby own_d11_17)
  refine own_by (T' := T4) (g' := (mkF m 20 #[.val (.ref a), .val (.ref ob), .val (.ref ob)] [(.ref y), (.ref x)])) st4 ?_
  obtain ⟨cq5, kq5, q5a, q5b, q5c⟩ := isOf hZ e4 Ex
  obtain ⟨_, _, ⟨T5, L5, k5, n5⟩, -, X5, ⟨Lc5, hQ5, l5, y5, z5⟩, st5⟩ := X4.virtualBack hx (y := (⟨"java/lang/String", "equals", "(Ljava/lang/Object;)Z"⟩ : MethodName)) (z := (⟨"java/lang/String", "equals", "(Ljava/lang/Object;)Z"⟩ : MethodName)) hown (mvT hZ (hw _ (List.mem_of_getElem? (i := 63) rfl))) (mvT hZ (hw _ (List.mem_of_getElem? (i := 64) rfl))) (notFace_of_selects (args := #[]) (mvT hZ (hw _ (List.mem_of_getElem? (i := 66) rfl)))) (mvT hZ (hw _ (List.mem_of_getElem? (i := 66) rfl))) (mvT hZ (hw _ (List.mem_of_getElem? (i := 65) rfl))) (by decide) (backOf (W := 0) (rmSEq_3_1 l Z a0 hw [] zC GS x y d1 d2 k1 k2 b0 b1 b2 c0 h0 n0 (by omega) O0 hxy Ey Fc1 Fc2 Fv1 Fv2 V1 V2) hZ (hw _ (List.mem_of_getElem? (i := 67) rfl)) (hw _ (List.mem_of_getElem? (i := 6) rfl)) (by decide) (by decide)) q5a q5c (g := (mkF m 20 #[.val (.ref a), .val (.ref ob), .val (.ref ob)] [(.ref y), (.ref x)])) rfl (by rw [hml]; rfl) (Steps.refl _) (argsL := [(.ref y)]) (rest := []) (lenOf own_pd_7 rfl) rfl (by show 2 * 0 + _ ≤ _; exact Nat.le_of_eq rfl) (hb hby own_d11_20) (fun _ _ => ⟨rfl, e4, (by decide : 0 + 0 ≤ _), (by decide : 0 + 0 ≤ _)⟩)
  dsimp only [Pt.U, Pt.locs, Pt.cells, Pt.slots] at X5 l5 y5 z5 st5 hQ5
  subst l5 y5 z5
  obtain ⟨rfl, N5q, e5⟩ := hQ5
  have N6 := Fr.app N0 N5q
  refine own_by (T' := T5) (g' := (mkF m 23 #[.val (.ref a), .val (.ref ob), .val (.ref ob)] [(.int (0 : Int32))])) (fun _ kt_ => st5.trans kt_) ?_
  refine own_by (T' := T5) (g' := (mkF m 30 #[.val (.ref a), .val (.ref ob), .val (.ref ob)] [])) (fun _ kt_ => XS.ifYes X5.here hx rfl (pc0 := 23) (pc' := 30) rfl (hb hby own_d11_23) rfl (XT.i0_eq_t (by decide)) (by decide) (by decide) kt_) ?_
  refine own_by (T' := T5) (g' := (mkF m 31 #[.val (.ref a), .val (.ref ob), .val (.ref ob)] [(.int (0 : Int32))])) (fun _ kt_ => XS.iconst X5.here hx rfl (hb hby own_d11_30) kt_) ?_
  have hn7 : nar .boolean (0 : Int32) = (0 : Int32) := rfl
  obtain ⟨fs8, hr8, hrun8, hended8, hW8, hsame8⟩ := X5.leave (v := some (.int (nar .boolean (0 : Int32)))) (fun h => by rw [Bd.returns] at h; cases h)
  refine ⟨_, _, retN X5 hx (t := .boolean) Bd.returns (by simp) (hb hby own_d11_31) hr8, hrun8, hended8, _, _, rfl, ?_, ⟨_, rfl⟩, hW8, hsame8.mono (by decide) (by decide)⟩
  show Q_rmBEq_3_1 Z zC a ob x y d1 d2 k1 k2 b0 b1 b2 c0 h0 n0 _ T5.heap _
  exact ⟨(congrArg (fun z => some (Value.int z)) hn7), N6, e5⟩
theorem own_ef_rmBEq_3_2 (m : MethodId) (x0 : Addr) (x1 : Addr) : entryFrame m #[(.ref x0), (.ref x1)] 3 = mkF m 0 #[.val (.ref x0), .val (.ref x1), .unset] [] := by first | (simp [entryFrame, mkF, argsToLocals, Value.category]; done) | rfl
def Q_rmBEq_3_2 (Z : State) (zC : Int32) (a : Addr) (ob : Addr) (x : Addr) (y : Addr) (d1 : Addr) (d2 : Addr) (k1 : ClassId) (k2 : ClassId) (b0 : Int32) (b1 : Int32) (b2 : Int32) (c0 : Int32) (c1 : Int32) (h0 : Heap) (n0 : Nat) (vv_ : Option Value) (hh_ : Heap) (LL_ : List Loc) : Prop := vv_ = some (.int (0 : Int32)) ∧ Fr n0 LL_ ∧ hh_ = h0
set_option maxRecDepth 65536 in
set_option maxHeartbeats 40000000 in
theorem rmBEq_3_2 (l : Launch) (Z : State) (a0 : Array Value) (hw : ∀ d ∈ tables_1, d.before a0 Z = true) (ws : List Jvm.Cond) (zC : Int32) (GS : Glob Z zC) (a : Addr) (ob : Addr) (x : Addr) (y : Addr) (d1 : Addr) (d2 : Addr) (k1 : ClassId) (k2 : ClassId) (b0 : Int32) (b1 : Int32) (b2 : Int32) (c0 : Int32) (c1 : Int32) (h0 : Heap) (n0 : Nat) (Z0 : n0 ≤ h0.size) (O0 : Old Z n0 h0) (Eo : Exa Z h0 ob "com/example/dependency_wiring/dependencywiring/BeanNameReference") (Fo : Fld Z h0 ob "com/example/dependency_wiring/dependencywiring/BeanNameReference" "beanName" "Ljava/lang/String;" (.ref x)) (Fa : Fld Z h0 a "com/example/dependency_wiring/dependencywiring/BeanNameReference" "beanName" "Ljava/lang/String;" (.ref y)) (hxy : x ≠ y) (Ex : Exa Z h0 x "java/lang/String") (Ey : Exa Z h0 y "java/lang/String") (Fc1 : Fld Z h0 x "java/lang/String" "coder" "B" (.int (0 : Int32))) (Fc2 : Fld Z h0 y "java/lang/String" "coder" "B" (.int (0 : Int32))) (Fv1 : Fld Z h0 x "java/lang/String" "value" "[B" (.ref d1)) (Fv2 : Fld Z h0 y "java/lang/String" "value" "[B" (.ref d2)) (V1 : Arv Z h0 d1 k1 .byte (3 : Int32) [(.int b0), (.int b1), (.int b2)] (.int (0 : Int32))) (V2 : Arv Z h0 d2 k2 .byte (2 : Int32) [(.int c0), (.int c1)] (.int (0 : Int32))) :
    MetFree l (⟨"com/example/dependency_wiring/dependencywiring/BeanNameReference", "equals", "(Ljava/lang/Object;)Z"⟩ : MethodName) (head1 (Jvm.Cond.code (⟨"com/example/dependency_wiring/dependencywiring/BeanNameReference", "equals", "(Ljava/lang/Object;)Z"⟩ : MethodName) prog_21_method_3_code 3 (some .boolean) :: ws) ({ frames := 2, cells := 0, slots := 0, locals := 28 } : Room)) (fun aa_ UU_ => aa_ = #[(.ref a), (.ref ob)] ∧ Z.Warmed39 UU_.vm ∧ UU_.heap = h0) (fun _ _ _ _ _ => True) (fun _ UU_ oo_ UV_ => ∃ vv_ LL_, oo_ = .returned vv_ ∧ Q_rmBEq_3_2 Z zC a ob x y d1 d2 k1 k2 b0 b1 b2 c0 c1 h0 n0 vv_ UV_.heap LL_ ∧ FrameEnd UU_ oo_ UV_ LL_ ({ frames := 2, cells := 0, slots := 0, locals := 28 } : Room).cells ({ frames := 2, cells := 0, slots := 0, locals := 28 } : Room).slots) := by
  refine MetFree.of_bodySF (plainFor_of_name own_pn_com_example_dependency_wiring_dependencywiring_BeanNameReference) hisR ?_
  intro p e s m args below meth c s₁ Bd hml0 hP hK
  obtain ⟨rfl, hZ, hh⟩ := hP
  have hx := Bd.exec
  have hby := Bd.bytes
  have hml : c.maxLocals = 3 := hml0
  have hown : s.vm.findClass "com/example/dependency_wiring/dependencywiring/BeanNameReference" = some m.cls := findClass_of_methodNamed Bd.named
  have hnm := (name_of_methodNamed Bd.named Bd.method).1
  have X0 : Stand p l e ({ frames := 2, cells := 0, slots := 0, locals := 28 } : Room) s m #[(.ref a), (.ref ob)] below meth c s₁ [] 0 0 := Stand.of_body Bd
  have e0 : s₁.heap = h0 := by rw [← hh, Bd.state]; rfl
  have N0 := Fr.nil n0
  have hn0 : Z.heap.size = n0 := O0.1
  have KT0 : Keep h0 h0 [] := Keep.refl _ _
  refine own_enter (Φ := fun oo_ UV_ => ∃ vv_ LL_, oo_ = .returned vv_ ∧ Q_rmBEq_3_2 Z zC a ob x y d1 d2 k1 k2 b0 b1 b2 c0 c1 h0 n0 vv_ UV_.heap LL_ ∧ FrameEnd s oo_ UV_ LL_ ({ frames := 2, cells := 0, slots := 0, locals := 28 } : Room).cells ({ frames := 2, cells := 0, slots := 0, locals := 28 } : Room).slots) (own_ef_rmBEq_3_2 m a ob) ?_
  refine own_by (T' := s₁) (g' := (mkF m 1 #[.val (.ref a), .val (.ref ob), .unset] [(.ref ob)])) (fun _ kt_ => XS.aloadN X0.here hx rfl (hb hby own_d11_0) rfl rfl kt_) ?_
  obtain ⟨T1, X1, e1, st1⟩ := instY X0 hx hZ hown (hw _ (List.mem_of_getElem? (i := 61) rfl)) e0 (Ins.self Eo) (g := (mkF m 1 #[.val (.ref a), .val (.ref ob), .unset] [(.ref ob)])) rfl rfl (hb hby own_d11_1)
  refine own_by (T' := T1) (g' := (mkF m 4 #[.val (.ref a), .val (.ref ob), .unset] [(.int (1 : Int32))])) st1 ?_
  refine own_by (T' := T1) (g' := (mkF m 7 #[.val (.ref a), .val (.ref ob), .unset] [])) (fun _ kt_ => XS.ifNo X1.here hx rfl (hb hby own_d11_4) rfl (XT.i0_eq_f (by decide)) kt_) ?_
  refine own_by (T' := T1) (g' := (mkF m 8 #[.val (.ref a), .val (.ref ob), .unset] [(.ref ob)])) (fun _ kt_ => XS.aloadN X1.here hx rfl (hb hby own_d11_7) rfl rfl kt_) ?_
  obtain ⟨T2, X2, e2, st2⟩ := castY X1 hx hZ hown (hw _ (List.mem_of_getElem? (i := 61) rfl)) e1 (Ins.self Eo) (g := (mkF m 8 #[.val (.ref a), .val (.ref ob), .unset] [(.ref ob)])) rfl rfl (hb hby own_d11_8)
  refine own_by (T' := T2) (g' := (mkF m 11 #[.val (.ref a), .val (.ref ob), .unset] [(.ref ob)])) st2 ?_
  refine own_by (T' := T2) (g' := (mkF m 12 #[.val (.ref a), .val (.ref ob), .val (.ref ob)] [])) (fun _ kt_ => XS.astoreN X2.here hx rfl (hb hby own_d11_11) rfl rfl (l' := #[.val (.ref a), .val (.ref ob), .val (.ref ob)]) rfl kt_) ?_
  refine own_by (T' := T2) (g' := (mkF m 13 #[.val (.ref a), .val (.ref ob), .val (.ref ob)] [(.ref ob)])) (fun _ kt_ => XS.aloadN X2.here hx rfl (hb hby own_d11_12) rfl rfl kt_) ?_
  obtain ⟨T3, X3, e3, st3⟩ := getF X2 hx hZ hown (host := "") (Or.inl (hw _ (List.mem_of_getElem? (i := 54) rfl))) Via.refl e2 Fo (g := (mkF m 13 #[.val (.ref a), .val (.ref ob), .val (.ref ob)] [(.ref ob)])) rfl rfl (hb hby own_d11_13)
  refine own_by (T' := T3) (g' := (mkF m 16 #[.val (.ref a), .val (.ref ob), .val (.ref ob)] [(.ref x)])) st3 ?_
  refine own_by (T' := T3) (g' := (mkF m 17 #[.val (.ref a), .val (.ref ob), .val (.ref ob)] [(.ref a), (.ref x)])) (fun _ kt_ => XS.aloadN X3.here hx rfl (hb hby own_d11_16) rfl rfl kt_) ?_
  obtain ⟨T4, X4, e4, st4⟩ := getF X3 hx hZ hown (host := "") (Or.inl (hw _ (List.mem_of_getElem? (i := 54) rfl))) Via.refl e3 Fa (g := (mkF m 17 #[.val (.ref a), .val (.ref ob), .val (.ref ob)] [(.ref a), (.ref x)])) rfl rfl (hb hby own_d11_17)
  refine own_by (T' := T4) (g' := (mkF m 20 #[.val (.ref a), .val (.ref ob), .val (.ref ob)] [(.ref y), (.ref x)])) st4 ?_
  obtain ⟨cq5, kq5, q5a, q5b, q5c⟩ := isOf hZ e4 Ex
  obtain ⟨_, _, ⟨T5, L5, k5, n5⟩, -, X5, ⟨Lc5, hQ5, l5, y5, z5⟩, st5⟩ := X4.virtualBack hx (y := (⟨"java/lang/String", "equals", "(Ljava/lang/Object;)Z"⟩ : MethodName)) (z := (⟨"java/lang/String", "equals", "(Ljava/lang/Object;)Z"⟩ : MethodName)) hown (mvT hZ (hw _ (List.mem_of_getElem? (i := 63) rfl))) (mvT hZ (hw _ (List.mem_of_getElem? (i := 64) rfl))) (notFace_of_selects (args := #[]) (mvT hZ (hw _ (List.mem_of_getElem? (i := 66) rfl)))) (mvT hZ (hw _ (List.mem_of_getElem? (i := 66) rfl))) (mvT hZ (hw _ (List.mem_of_getElem? (i := 65) rfl))) (by decide) (backOf (W := 0) (rmSEq_3_2 l Z a0 hw [] zC GS x y d1 d2 k1 k2 b0 b1 b2 c0 c1 h0 n0 (by omega) O0 hxy Ey Fc1 Fc2 Fv1 Fv2 V1 V2) hZ (hw _ (List.mem_of_getElem? (i := 67) rfl)) (hw _ (List.mem_of_getElem? (i := 6) rfl)) (by decide) (by decide)) q5a q5c (g := (mkF m 20 #[.val (.ref a), .val (.ref ob), .val (.ref ob)] [(.ref y), (.ref x)])) rfl (by rw [hml]; rfl) (Steps.refl _) (argsL := [(.ref y)]) (rest := []) (lenOf own_pd_7 rfl) rfl (by show 2 * 0 + _ ≤ _; exact Nat.le_of_eq rfl) (hb hby own_d11_20) (fun _ _ => ⟨rfl, e4, (by decide : 0 + 0 ≤ _), (by decide : 0 + 0 ≤ _)⟩)
  dsimp only [Pt.U, Pt.locs, Pt.cells, Pt.slots] at X5 l5 y5 z5 st5 hQ5
  subst l5 y5 z5
  obtain ⟨rfl, N5q, e5⟩ := hQ5
  have N6 := Fr.app N0 N5q
  refine own_by (T' := T5) (g' := (mkF m 23 #[.val (.ref a), .val (.ref ob), .val (.ref ob)] [(.int (0 : Int32))])) (fun _ kt_ => st5.trans kt_) ?_
  refine own_by (T' := T5) (g' := (mkF m 30 #[.val (.ref a), .val (.ref ob), .val (.ref ob)] [])) (fun _ kt_ => XS.ifYes X5.here hx rfl (pc0 := 23) (pc' := 30) rfl (hb hby own_d11_23) rfl (XT.i0_eq_t (by decide)) (by decide) (by decide) kt_) ?_
  refine own_by (T' := T5) (g' := (mkF m 31 #[.val (.ref a), .val (.ref ob), .val (.ref ob)] [(.int (0 : Int32))])) (fun _ kt_ => XS.iconst X5.here hx rfl (hb hby own_d11_30) kt_) ?_
  have hn7 : nar .boolean (0 : Int32) = (0 : Int32) := rfl
  obtain ⟨fs8, hr8, hrun8, hended8, hW8, hsame8⟩ := X5.leave (v := some (.int (nar .boolean (0 : Int32)))) (fun h => by rw [Bd.returns] at h; cases h)
  refine ⟨_, _, retN X5 hx (t := .boolean) Bd.returns (by simp) (hb hby own_d11_31) hr8, hrun8, hended8, _, _, rfl, ?_, ⟨_, rfl⟩, hW8, hsame8.mono (by decide) (by decide)⟩
  show Q_rmBEq_3_2 Z zC a ob x y d1 d2 k1 k2 b0 b1 b2 c0 c1 h0 n0 _ T5.heap _
  exact ⟨(congrArg (fun z => some (Value.int z)) hn7), N6, e5⟩
theorem own_ef_rmBEq_3_3 (m : MethodId) (x0 : Addr) (x1 : Addr) : entryFrame m #[(.ref x0), (.ref x1)] 3 = mkF m 0 #[.val (.ref x0), .val (.ref x1), .unset] [] := by first | (simp [entryFrame, mkF, argsToLocals, Value.category]; done) | rfl
def Q_rmBEq_3_3 (Z : State) (zC : Int32) (a : Addr) (ob : Addr) (x : Addr) (y : Addr) (d1 : Addr) (d2 : Addr) (k1 : ClassId) (k2 : ClassId) (b0 : Int32) (b1 : Int32) (b2 : Int32) (c0 : Int32) (c1 : Int32) (c2 : Int32) (h0 : Heap) (n0 : Nat) (vv_ : Option Value) (hh_ : Heap) (LL_ : List Loc) : Prop := vv_ = some (.int (if b0 = c0 then (if b1 = c1 then (if b2 = c2 then (1 : Int32) else (0 : Int32)) else (0 : Int32)) else (0 : Int32))) ∧ Fr n0 LL_ ∧ hh_ = h0
set_option maxRecDepth 65536 in
set_option maxHeartbeats 40000000 in
theorem rmBEq_3_3 (l : Launch) (Z : State) (a0 : Array Value) (hw : ∀ d ∈ tables_1, d.before a0 Z = true) (ws : List Jvm.Cond) (zC : Int32) (GS : Glob Z zC) (a : Addr) (ob : Addr) (x : Addr) (y : Addr) (d1 : Addr) (d2 : Addr) (k1 : ClassId) (k2 : ClassId) (b0 : Int32) (b1 : Int32) (b2 : Int32) (c0 : Int32) (c1 : Int32) (c2 : Int32) (h0 : Heap) (n0 : Nat) (Z0 : n0 ≤ h0.size) (O0 : Old Z n0 h0) (Eo : Exa Z h0 ob "com/example/dependency_wiring/dependencywiring/BeanNameReference") (Fo : Fld Z h0 ob "com/example/dependency_wiring/dependencywiring/BeanNameReference" "beanName" "Ljava/lang/String;" (.ref x)) (Fa : Fld Z h0 a "com/example/dependency_wiring/dependencywiring/BeanNameReference" "beanName" "Ljava/lang/String;" (.ref y)) (hxy : x ≠ y) (Ex : Exa Z h0 x "java/lang/String") (Ey : Exa Z h0 y "java/lang/String") (Fc1 : Fld Z h0 x "java/lang/String" "coder" "B" (.int (0 : Int32))) (Fc2 : Fld Z h0 y "java/lang/String" "coder" "B" (.int (0 : Int32))) (Fv1 : Fld Z h0 x "java/lang/String" "value" "[B" (.ref d1)) (Fv2 : Fld Z h0 y "java/lang/String" "value" "[B" (.ref d2)) (V1 : Arv Z h0 d1 k1 .byte (3 : Int32) [(.int b0), (.int b1), (.int b2)] (.int (0 : Int32))) (V2 : Arv Z h0 d2 k2 .byte (3 : Int32) [(.int c0), (.int c1), (.int c2)] (.int (0 : Int32))) :
    MetFree l (⟨"com/example/dependency_wiring/dependencywiring/BeanNameReference", "equals", "(Ljava/lang/Object;)Z"⟩ : MethodName) (head1 (Jvm.Cond.code (⟨"com/example/dependency_wiring/dependencywiring/BeanNameReference", "equals", "(Ljava/lang/Object;)Z"⟩ : MethodName) prog_21_method_3_code 3 (some .boolean) :: ws) ({ frames := 2, cells := 0, slots := 0, locals := 28 } : Room)) (fun aa_ UU_ => aa_ = #[(.ref a), (.ref ob)] ∧ Z.Warmed39 UU_.vm ∧ UU_.heap = h0) (fun _ _ _ _ _ => True) (fun _ UU_ oo_ UV_ => ∃ vv_ LL_, oo_ = .returned vv_ ∧ Q_rmBEq_3_3 Z zC a ob x y d1 d2 k1 k2 b0 b1 b2 c0 c1 c2 h0 n0 vv_ UV_.heap LL_ ∧ FrameEnd UU_ oo_ UV_ LL_ ({ frames := 2, cells := 0, slots := 0, locals := 28 } : Room).cells ({ frames := 2, cells := 0, slots := 0, locals := 28 } : Room).slots) := by
  refine MetFree.of_bodySF (plainFor_of_name own_pn_com_example_dependency_wiring_dependencywiring_BeanNameReference) hisR ?_
  intro p e s m args below meth c s₁ Bd hml0 hP hK
  obtain ⟨rfl, hZ, hh⟩ := hP
  have hx := Bd.exec
  have hby := Bd.bytes
  have hml : c.maxLocals = 3 := hml0
  have hown : s.vm.findClass "com/example/dependency_wiring/dependencywiring/BeanNameReference" = some m.cls := findClass_of_methodNamed Bd.named
  have hnm := (name_of_methodNamed Bd.named Bd.method).1
  have X0 : Stand p l e ({ frames := 2, cells := 0, slots := 0, locals := 28 } : Room) s m #[(.ref a), (.ref ob)] below meth c s₁ [] 0 0 := Stand.of_body Bd
  have e0 : s₁.heap = h0 := by rw [← hh, Bd.state]; rfl
  have N0 := Fr.nil n0
  have hn0 : Z.heap.size = n0 := O0.1
  have KT0 : Keep h0 h0 [] := Keep.refl _ _
  refine own_enter (Φ := fun oo_ UV_ => ∃ vv_ LL_, oo_ = .returned vv_ ∧ Q_rmBEq_3_3 Z zC a ob x y d1 d2 k1 k2 b0 b1 b2 c0 c1 c2 h0 n0 vv_ UV_.heap LL_ ∧ FrameEnd s oo_ UV_ LL_ ({ frames := 2, cells := 0, slots := 0, locals := 28 } : Room).cells ({ frames := 2, cells := 0, slots := 0, locals := 28 } : Room).slots) (own_ef_rmBEq_3_3 m a ob) ?_
  refine own_by (T' := s₁) (g' := (mkF m 1 #[.val (.ref a), .val (.ref ob), .unset] [(.ref ob)])) (fun _ kt_ => XS.aloadN X0.here hx rfl (hb hby own_d11_0) rfl rfl kt_) ?_
  obtain ⟨T1, X1, e1, st1⟩ := instY X0 hx hZ hown (hw _ (List.mem_of_getElem? (i := 61) rfl)) e0 (Ins.self Eo) (g := (mkF m 1 #[.val (.ref a), .val (.ref ob), .unset] [(.ref ob)])) rfl rfl (hb hby own_d11_1)
  refine own_by (T' := T1) (g' := (mkF m 4 #[.val (.ref a), .val (.ref ob), .unset] [(.int (1 : Int32))])) st1 ?_
  refine own_by (T' := T1) (g' := (mkF m 7 #[.val (.ref a), .val (.ref ob), .unset] [])) (fun _ kt_ => XS.ifNo X1.here hx rfl (hb hby own_d11_4) rfl (XT.i0_eq_f (by decide)) kt_) ?_
  refine own_by (T' := T1) (g' := (mkF m 8 #[.val (.ref a), .val (.ref ob), .unset] [(.ref ob)])) (fun _ kt_ => XS.aloadN X1.here hx rfl (hb hby own_d11_7) rfl rfl kt_) ?_
  obtain ⟨T2, X2, e2, st2⟩ := castY X1 hx hZ hown (hw _ (List.mem_of_getElem? (i := 61) rfl)) e1 (Ins.self Eo) (g := (mkF m 8 #[.val (.ref a), .val (.ref ob), .unset] [(.ref ob)])) rfl rfl (hb hby own_d11_8)
  refine own_by (T' := T2) (g' := (mkF m 11 #[.val (.ref a), .val (.ref ob), .unset] [(.ref ob)])) st2 ?_
  refine own_by (T' := T2) (g' := (mkF m 12 #[.val (.ref a), .val (.ref ob), .val (.ref ob)] [])) (fun _ kt_ => XS.astoreN X2.here hx rfl (hb hby own_d11_11) rfl rfl (l' := #[.val (.ref a), .val (.ref ob), .val (.ref ob)]) rfl kt_) ?_
  refine own_by (T' := T2) (g' := (mkF m 13 #[.val (.ref a), .val (.ref ob), .val (.ref ob)] [(.ref ob)])) (fun _ kt_ => XS.aloadN X2.here hx rfl (hb hby own_d11_12) rfl rfl kt_) ?_
  obtain ⟨T3, X3, e3, st3⟩ := getF X2 hx hZ hown (host := "") (Or.inl (hw _ (List.mem_of_getElem? (i := 54) rfl))) Via.refl e2 Fo (g := (mkF m 13 #[.val (.ref a), .val (.ref ob), .val (.ref ob)] [(.ref ob)])) rfl rfl (hb hby own_d11_13)
  refine own_by (T' := T3) (g' := (mkF m 16 #[.val (.ref a), .val (.ref ob), .val (.ref ob)] [(.ref x)])) st3 ?_
  refine own_by (T' := T3) (g' := (mkF m 17 #[.val (.ref a), .val (.ref ob), .val (.ref ob)] [(.ref a), (.ref x)])) (fun _ kt_ => XS.aloadN X3.here hx rfl (hb hby own_d11_16) rfl rfl kt_) ?_
  obtain ⟨T4, X4, e4, st4⟩ := getF X3 hx hZ hown (host := "") (Or.inl (hw _ (List.mem_of_getElem? (i := 54) rfl))) Via.refl e3 Fa (g := (mkF m 17 #[.val (.ref a), .val (.ref ob), .val (.ref ob)] [(.ref a), (.ref x)])) rfl rfl (hb hby own_d11_17)
  refine own_by (T' := T4) (g' := (mkF m 20 #[.val (.ref a), .val (.ref ob), .val (.ref ob)] [(.ref y), (.ref x)])) st4 ?_
  obtain ⟨cq5, kq5, q5a, q5b, q5c⟩ := isOf hZ e4 Ex
  obtain ⟨_, _, ⟨T5, L5, k5, n5⟩, -, X5, ⟨Lc5, hQ5, l5, y5, z5⟩, st5⟩ := X4.virtualBack hx (y := (⟨"java/lang/String", "equals", "(Ljava/lang/Object;)Z"⟩ : MethodName)) (z := (⟨"java/lang/String", "equals", "(Ljava/lang/Object;)Z"⟩ : MethodName)) hown (mvT hZ (hw _ (List.mem_of_getElem? (i := 63) rfl))) (mvT hZ (hw _ (List.mem_of_getElem? (i := 64) rfl))) (notFace_of_selects (args := #[]) (mvT hZ (hw _ (List.mem_of_getElem? (i := 66) rfl)))) (mvT hZ (hw _ (List.mem_of_getElem? (i := 66) rfl))) (mvT hZ (hw _ (List.mem_of_getElem? (i := 65) rfl))) (by decide) (backOf (W := 0) (rmSEq_3_3 l Z a0 hw [] zC GS x y d1 d2 k1 k2 b0 b1 b2 c0 c1 c2 h0 n0 (by omega) O0 hxy Ey Fc1 Fc2 Fv1 Fv2 V1 V2) hZ (hw _ (List.mem_of_getElem? (i := 67) rfl)) (hw _ (List.mem_of_getElem? (i := 6) rfl)) (by decide) (by decide)) q5a q5c (g := (mkF m 20 #[.val (.ref a), .val (.ref ob), .val (.ref ob)] [(.ref y), (.ref x)])) rfl (by rw [hml]; rfl) (Steps.refl _) (argsL := [(.ref y)]) (rest := []) (lenOf own_pd_7 rfl) rfl (by show 2 * 0 + _ ≤ _; exact Nat.le_of_eq rfl) (hb hby own_d11_20) (fun _ _ => ⟨rfl, e4, (by decide : 0 + 0 ≤ _), (by decide : 0 + 0 ≤ _)⟩)
  dsimp only [Pt.U, Pt.locs, Pt.cells, Pt.slots] at X5 l5 y5 z5 st5 hQ5
  subst l5 y5 z5
  obtain ⟨rfl, N5q, e5⟩ := hQ5
  have N6 := Fr.app N0 N5q
  refine own_by (T' := T5) (g' := (mkF m 23 #[.val (.ref a), .val (.ref ob), .val (.ref ob)] [(.int (if b0 = c0 then (if b1 = c1 then (if b2 = c2 then (1 : Int32) else (0 : Int32)) else (0 : Int32)) else (0 : Int32)))])) (fun _ kt_ => st5.trans kt_) ?_
  by_cases hc7 : (if b0 = c0 then (if b1 = c1 then (if b2 = c2 then (1 : Int32) else (0 : Int32)) else (0 : Int32)) else (0 : Int32)) = (0 : Int32)
  · refine own_by (T' := T5) (g' := (mkF m 30 #[.val (.ref a), .val (.ref ob), .val (.ref ob)] [])) (fun _ kt_ => XS.ifYes X5.here hx rfl (pc0 := 23) (pc' := 30) rfl (hb hby own_d11_23) rfl (XT.i0_eq_t hc7) (by decide) (by decide) kt_) ?_
    refine own_by (T' := T5) (g' := (mkF m 31 #[.val (.ref a), .val (.ref ob), .val (.ref ob)] [(.int (0 : Int32))])) (fun _ kt_ => XS.iconst X5.here hx rfl (hb hby own_d11_30) kt_) ?_
    have hn8 : nar .boolean (0 : Int32) = (0 : Int32) := rfl
    have hr9 : (0 : Int32) = (if b0 = c0 then (if b1 = c1 then (if b2 = c2 then (1 : Int32) else (0 : Int32)) else (0 : Int32)) else (0 : Int32)) := by first | rfl | (revert hc7; (repeat' split) <;> simp_all) | (revert hc7; simp)
    obtain ⟨fs10, hr10, hrun10, hended10, hW10, hsame10⟩ := X5.leave (v := some (.int (nar .boolean (0 : Int32)))) (fun h => by rw [Bd.returns] at h; cases h)
    refine ⟨_, _, retN X5 hx (t := .boolean) Bd.returns (by simp) (hb hby own_d11_31) hr10, hrun10, hended10, _, _, rfl, ?_, ⟨_, rfl⟩, hW10, hsame10.mono (by decide) (by decide)⟩
    show Q_rmBEq_3_3 Z zC a ob x y d1 d2 k1 k2 b0 b1 b2 c0 c1 c2 h0 n0 _ T5.heap _
    exact ⟨(congrArg (fun z => some (Value.int z)) (hn8.trans hr9)), N6, e5⟩
  · refine own_by (T' := T5) (g' := (mkF m 26 #[.val (.ref a), .val (.ref ob), .val (.ref ob)] [])) (fun _ kt_ => XS.ifNo X5.here hx rfl (hb hby own_d11_23) rfl (XT.i0_eq_f hc7) kt_) ?_
    refine own_by (T' := T5) (g' := (mkF m 27 #[.val (.ref a), .val (.ref ob), .val (.ref ob)] [(.int (1 : Int32))])) (fun _ kt_ => XS.iconst X5.here hx rfl (hb hby own_d11_26) kt_) ?_
    refine own_by (T' := T5) (g' := (mkF m 31 #[.val (.ref a), .val (.ref ob), .val (.ref ob)] [(.int (1 : Int32))])) (fun _ kt_ => XS.goto X5.here hx rfl (pc0 := 27) (pc' := 31) rfl (hb hby own_d11_27) (by decide) (by decide) kt_) ?_
    have hn11 : nar .boolean (1 : Int32) = (1 : Int32) := rfl
    have hr12 : (1 : Int32) = (if b0 = c0 then (if b1 = c1 then (if b2 = c2 then (1 : Int32) else (0 : Int32)) else (0 : Int32)) else (0 : Int32)) := by first | rfl | (revert hc7; (repeat' split) <;> simp_all) | (revert hc7; simp)
    obtain ⟨fs13, hr13, hrun13, hended13, hW13, hsame13⟩ := X5.leave (v := some (.int (nar .boolean (1 : Int32)))) (fun h => by rw [Bd.returns] at h; cases h)
    refine ⟨_, _, retN X5 hx (t := .boolean) Bd.returns (by simp) (hb hby own_d11_31) hr13, hrun13, hended13, _, _, rfl, ?_, ⟨_, rfl⟩, hW13, hsame13.mono (by decide) (by decide)⟩
    show Q_rmBEq_3_3 Z zC a ob x y d1 d2 k1 k2 b0 b1 b2 c0 c1 c2 h0 n0 _ T5.heap _
    exact ⟨(congrArg (fun z => some (Value.int z)) (hn11.trans hr12)), N6, e5⟩
def Q_rmBEqG (Z : State) (zC : Int32) (a : Addr) (ob : Addr) (x : Addr) (y : Addr) (d1 : Addr) (d2 : Addr) (k1 : ClassId) (k2 : ClassId) (l1 : Int32) (b0 : Int32) (b1 : Int32) (b2 : Int32) (l2 : Int32) (c0 : Int32) (c1 : Int32) (c2 : Int32) (h0 : Heap) (n0 : Nat) (vv_ : Option Value) (hh_ : Heap) (LL_ : List Loc) : Prop := vv_ = some (.int (eqF l1 b0 b1 b2 l2 c0 c1 c2)) ∧ Fr n0 LL_ ∧ hh_ = h0
set_option maxRecDepth 65536 in
set_option maxHeartbeats 40000000 in
theorem rmBEqG (l : Launch) (Z : State) (a0 : Array Value) (hw : ∀ d ∈ tables_1, d.before a0 Z = true) (ws : List Jvm.Cond) (zC : Int32) (GS : Glob Z zC) (a : Addr) (ob : Addr) (x : Addr) (y : Addr) (d1 : Addr) (d2 : Addr) (k1 : ClassId) (k2 : ClassId) (l1 : Int32) (b0 : Int32) (b1 : Int32) (b2 : Int32) (l2 : Int32) (c0 : Int32) (c1 : Int32) (c2 : Int32) (h0 : Heap) (n0 : Nat) (Z0 : n0 ≤ h0.size) (O0 : Old Z n0 h0) (Eo : Exa Z h0 ob "com/example/dependency_wiring/dependencywiring/BeanNameReference") (Fo : Fld Z h0 ob "com/example/dependency_wiring/dependencywiring/BeanNameReference" "beanName" "Ljava/lang/String;" (.ref x)) (Fa : Fld Z h0 a "com/example/dependency_wiring/dependencywiring/BeanNameReference" "beanName" "Ljava/lang/String;" (.ref y)) (hxy : x ≠ y) (Ex : Exa Z h0 x "java/lang/String") (Ey : Exa Z h0 y "java/lang/String") (Fc1 : Fld Z h0 x "java/lang/String" "coder" "B" (.int (0 : Int32))) (Fc2 : Fld Z h0 y "java/lang/String" "coder" "B" (.int (0 : Int32))) (Fv1 : Fld Z h0 x "java/lang/String" "value" "[B" (.ref d1)) (Fv2 : Fld Z h0 y "java/lang/String" "value" "[B" (.ref d2)) (V1 : Arv Z h0 d1 k1 .byte l1 (bF l1 b0 b1 b2) (.int (0 : Int32))) (V2 : Arv Z h0 d2 k2 .byte l2 (bF l2 c0 c1 c2) (.int (0 : Int32))) (h1 : (l1 = (1 : Int32) ∨ l1 = (2 : Int32) ∨ l1 = (3 : Int32))) (h2 : (l2 = (1 : Int32) ∨ l2 = (2 : Int32) ∨ l2 = (3 : Int32))) :
    MetFree l (⟨"com/example/dependency_wiring/dependencywiring/BeanNameReference", "equals", "(Ljava/lang/Object;)Z"⟩ : MethodName) (head1 (Jvm.Cond.code (⟨"com/example/dependency_wiring/dependencywiring/BeanNameReference", "equals", "(Ljava/lang/Object;)Z"⟩ : MethodName) prog_21_method_3_code 3 (some .boolean) :: ws) ({ frames := 2, cells := 0, slots := 0, locals := 28 } : Room)) (fun aa_ UU_ => aa_ = #[(.ref a), (.ref ob)] ∧ Z.Warmed39 UU_.vm ∧ UU_.heap = h0) (fun _ _ _ _ _ => True) (fun _ UU_ oo_ UV_ => ∃ vv_ LL_, oo_ = .returned vv_ ∧ Q_rmBEqG Z zC a ob x y d1 d2 k1 k2 l1 b0 b1 b2 l2 c0 c1 c2 h0 n0 vv_ UV_.heap LL_ ∧ FrameEnd UU_ oo_ UV_ LL_ ({ frames := 2, cells := 0, slots := 0, locals := 28 } : Room).cells ({ frames := 2, cells := 0, slots := 0, locals := 28 } : Room).slots) := by
  rcases h1 with rfl | rfl | rfl <;> rcases h2 with rfl | rfl | rfl
  · rw [own_bF1] at V1; rw [own_bF1] at V2; unfold Q_rmBEqG; rw [own_eqF11]; exact rmBEq_1_1 l Z a0 hw ws zC GS a ob x y d1 d2 k1 k2 (b0.toInt8.toInt32) (c0.toInt8.toInt32) h0 n0 Z0 O0 Eo Fo Fa hxy Ex Ey Fc1 Fc2 Fv1 Fv2 V1 V2
  · rw [own_bF1] at V1; rw [own_bF2] at V2; unfold Q_rmBEqG; rw [own_eqF12]; exact rmBEq_1_2 l Z a0 hw ws zC GS a ob x y d1 d2 k1 k2 (b0.toInt8.toInt32) (c0.toInt8.toInt32) (c1.toInt8.toInt32) h0 n0 Z0 O0 Eo Fo Fa hxy Ex Ey Fc1 Fc2 Fv1 Fv2 V1 V2
  · rw [own_bF1] at V1; rw [own_bF3] at V2; unfold Q_rmBEqG; rw [own_eqF13]; exact rmBEq_1_3 l Z a0 hw ws zC GS a ob x y d1 d2 k1 k2 (b0.toInt8.toInt32) (c0.toInt8.toInt32) (c1.toInt8.toInt32) (c2.toInt8.toInt32) h0 n0 Z0 O0 Eo Fo Fa hxy Ex Ey Fc1 Fc2 Fv1 Fv2 V1 V2
  · rw [own_bF2] at V1; rw [own_bF1] at V2; unfold Q_rmBEqG; rw [own_eqF21]; exact rmBEq_2_1 l Z a0 hw ws zC GS a ob x y d1 d2 k1 k2 (b0.toInt8.toInt32) (b1.toInt8.toInt32) (c0.toInt8.toInt32) h0 n0 Z0 O0 Eo Fo Fa hxy Ex Ey Fc1 Fc2 Fv1 Fv2 V1 V2
  · rw [own_bF2] at V1; rw [own_bF2] at V2; unfold Q_rmBEqG; rw [own_eqF22]; exact rmBEq_2_2 l Z a0 hw ws zC GS a ob x y d1 d2 k1 k2 (b0.toInt8.toInt32) (b1.toInt8.toInt32) (c0.toInt8.toInt32) (c1.toInt8.toInt32) h0 n0 Z0 O0 Eo Fo Fa hxy Ex Ey Fc1 Fc2 Fv1 Fv2 V1 V2
  · rw [own_bF2] at V1; rw [own_bF3] at V2; unfold Q_rmBEqG; rw [own_eqF23]; exact rmBEq_2_3 l Z a0 hw ws zC GS a ob x y d1 d2 k1 k2 (b0.toInt8.toInt32) (b1.toInt8.toInt32) (c0.toInt8.toInt32) (c1.toInt8.toInt32) (c2.toInt8.toInt32) h0 n0 Z0 O0 Eo Fo Fa hxy Ex Ey Fc1 Fc2 Fv1 Fv2 V1 V2
  · rw [own_bF3] at V1; rw [own_bF1] at V2; unfold Q_rmBEqG; rw [own_eqF31]; exact rmBEq_3_1 l Z a0 hw ws zC GS a ob x y d1 d2 k1 k2 (b0.toInt8.toInt32) (b1.toInt8.toInt32) (b2.toInt8.toInt32) (c0.toInt8.toInt32) h0 n0 Z0 O0 Eo Fo Fa hxy Ex Ey Fc1 Fc2 Fv1 Fv2 V1 V2
  · rw [own_bF3] at V1; rw [own_bF2] at V2; unfold Q_rmBEqG; rw [own_eqF32]; exact rmBEq_3_2 l Z a0 hw ws zC GS a ob x y d1 d2 k1 k2 (b0.toInt8.toInt32) (b1.toInt8.toInt32) (b2.toInt8.toInt32) (c0.toInt8.toInt32) (c1.toInt8.toInt32) h0 n0 Z0 O0 Eo Fo Fa hxy Ex Ey Fc1 Fc2 Fv1 Fv2 V1 V2
  · rw [own_bF3] at V1; rw [own_bF3] at V2; unfold Q_rmBEqG; rw [own_eqF33]; exact rmBEq_3_3 l Z a0 hw ws zC GS a ob x y d1 d2 k1 k2 (b0.toInt8.toInt32) (b1.toInt8.toInt32) (b2.toInt8.toInt32) (c0.toInt8.toInt32) (c1.toInt8.toInt32) (c2.toInt8.toInt32) h0 n0 Z0 O0 Eo Fo Fa hxy Ex Ey Fc1 Fc2 Fv1 Fv2 V1 V2
def Q_rmBIG (Z : State) (zC : Int32) (a : Addr) (x : Addr) (t : Addr) (kB : ClassId) (l1 : Int32) (b0 : Int32) (b1 : Int32) (b2 : Int32) (h0 : Heap) (n0 : Nat) (vv_ : Option Value) (hh_ : Heap) (LL_ : List Loc) : Prop := vv_ = none ∧ Fr n0 LL_ ∧ Keep h0 hh_ [a] ∧ Fld Z hh_ a "com/example/dependency_wiring/dependencywiring/BeanNameReference" "beanName" "Ljava/lang/String;" (.ref x)
set_option maxRecDepth 65536 in
set_option maxHeartbeats 40000000 in
theorem rmBIG (l : Launch) (Z : State) (a0 : Array Value) (hw : ∀ d ∈ tables_1, d.before a0 Z = true) (ws : List Jvm.Cond) (zC : Int32) (GS : Glob Z zC) (a : Addr) (x : Addr) (t : Addr) (kB : ClassId) (l1 : Int32) (b0 : Int32) (b1 : Int32) (b2 : Int32) (h0 : Heap) (n0 : Nat) (Z0 : n0 ≤ h0.size) (O0 : Old Z n0 h0) (E_a : Exa Z h0 a "com/example/dependency_wiring/dependencywiring/BeanNameReference") (g_a : n0 ≤ a) (E_x : Exa Z h0 x "java/lang/String") (F_a : Fld Z h0 a "com/example/dependency_wiring/dependencywiring/BeanNameReference" "beanName" "Ljava/lang/String;" .null) (Fv : Fld Z h0 x "java/lang/String" "value" "[B" (.ref t)) (Vt : Arv Z h0 t kB .byte l1 (bF l1 b0 b1 b2) (.int (0 : Int32))) (h1 : (l1 = (1 : Int32) ∨ l1 = (2 : Int32) ∨ l1 = (3 : Int32))) :
    MetFree l (⟨"com/example/dependency_wiring/dependencywiring/BeanNameReference", "<init>", "(Ljava/lang/String;)V"⟩ : MethodName) (head1 (Jvm.Cond.code (⟨"com/example/dependency_wiring/dependencywiring/BeanNameReference", "<init>", "(Ljava/lang/String;)V"⟩ : MethodName) prog_21_method_1_code 2 none :: ws) ({ frames := 1, cells := 2, slots := 36, locals := 13 } : Room)) (fun aa_ UU_ => aa_ = #[(.ref a), (.ref x)] ∧ Z.Warmed39 UU_.vm ∧ UU_.heap = h0) (fun _ _ _ _ _ => True) (fun _ UU_ oo_ UV_ => ∃ vv_ LL_, oo_ = .returned vv_ ∧ Q_rmBIG Z zC a x t kB l1 b0 b1 b2 h0 n0 vv_ UV_.heap LL_ ∧ ReturnedEndW UU_ oo_ UV_ LL_ ({ frames := 1, cells := 2, slots := 36, locals := 13 } : Room).cells ({ frames := 1, cells := 2, slots := 36, locals := 13 } : Room).slots) := by
  rcases h1 with rfl | rfl | rfl
  · rw [own_bF1] at Vt; exact rmBI_1 l Z a0 hw ws zC GS a x t kB (b0.toInt8.toInt32) h0 n0 Z0 O0 E_a g_a E_x F_a Fv Vt
  · rw [own_bF2] at Vt; exact rmBI_2 l Z a0 hw ws zC GS a x t kB (b0.toInt8.toInt32) (b1.toInt8.toInt32) h0 n0 Z0 O0 E_a g_a E_x F_a Fv Vt
  · rw [own_bF3] at Vt; exact rmBI_3 l Z a0 hw ws zC GS a x t kB (b0.toInt8.toInt32) (b1.toInt8.toInt32) (b2.toInt8.toInt32) h0 n0 Z0 O0 E_a g_a E_x F_a Fv Vt
theorem own_pd_8 : parseMethodDescriptor "([C)V" = some ⟨[(.array .char)], none⟩ := by decide +kernel
theorem own_d1_0 : decode method_2_code 0 = .ok (.iload_n 0, 1) := by decide +kernel
theorem own_d1_1 : decode method_2_code 1 = .ok (.iconst 1, 1) := by decide +kernel
theorem own_d1_2 : decode method_2_code 2 = .ok (.if_icmp .ne 18, 3) := by decide +kernel
theorem own_d1_5 : decode method_2_code 5 = .ok (.new 7, 3) := by decide +kernel
theorem own_d1_8 : decode method_2_code 8 = .ok (.dup, 1) := by decide +kernel
theorem own_d1_9 : decode method_2_code 9 = .ok (.iconst 1, 1) := by decide +kernel
theorem own_d1_10 : decode method_2_code 10 = .ok (.newarray .char, 2) := by decide +kernel
theorem own_d1_12 : decode method_2_code 12 = .ok (.dup, 1) := by decide +kernel
theorem own_d1_13 : decode method_2_code 13 = .ok (.iconst 0, 1) := by decide +kernel
theorem own_d1_14 : decode method_2_code 14 = .ok (.iload_n 1, 1) := by decide +kernel
theorem own_d1_15 : decode method_2_code 15 = .ok (.castore, 1) := by decide +kernel
theorem own_d1_16 : decode method_2_code 16 = .ok (.invokespecial 9, 3) := by decide +kernel
theorem own_d1_19 : decode method_2_code 19 = .ok (.areturn, 1) := by decide +kernel
theorem own_d1_20 : decode method_2_code 20 = .ok (.iload_n 0, 1) := by decide +kernel
theorem own_d1_21 : decode method_2_code 21 = .ok (.iconst 2, 1) := by decide +kernel
theorem own_d1_22 : decode method_2_code 22 = .ok (.if_icmp .ne 22, 3) := by decide +kernel
theorem own_d1_25 : decode method_2_code 25 = .ok (.new 7, 3) := by decide +kernel
theorem own_d1_28 : decode method_2_code 28 = .ok (.dup, 1) := by decide +kernel
theorem own_d1_29 : decode method_2_code 29 = .ok (.iconst 2, 1) := by decide +kernel
theorem own_d1_30 : decode method_2_code 30 = .ok (.newarray .char, 2) := by decide +kernel
theorem own_d1_32 : decode method_2_code 32 = .ok (.dup, 1) := by decide +kernel
theorem own_d1_33 : decode method_2_code 33 = .ok (.iconst 0, 1) := by decide +kernel
theorem own_d1_34 : decode method_2_code 34 = .ok (.iload_n 1, 1) := by decide +kernel
theorem own_d1_35 : decode method_2_code 35 = .ok (.castore, 1) := by decide +kernel
theorem own_d1_36 : decode method_2_code 36 = .ok (.dup, 1) := by decide +kernel
theorem own_d1_37 : decode method_2_code 37 = .ok (.iconst 1, 1) := by decide +kernel
theorem own_d1_38 : decode method_2_code 38 = .ok (.iload_n 2, 1) := by decide +kernel
theorem own_d1_39 : decode method_2_code 39 = .ok (.castore, 1) := by decide +kernel
theorem own_d1_40 : decode method_2_code 40 = .ok (.invokespecial 9, 3) := by decide +kernel
theorem own_d1_43 : decode method_2_code 43 = .ok (.areturn, 1) := by decide +kernel
theorem own_d1_44 : decode method_2_code 44 = .ok (.new 7, 3) := by decide +kernel
theorem own_d1_47 : decode method_2_code 47 = .ok (.dup, 1) := by decide +kernel
theorem own_d1_48 : decode method_2_code 48 = .ok (.iconst 3, 1) := by decide +kernel
theorem own_d1_49 : decode method_2_code 49 = .ok (.newarray .char, 2) := by decide +kernel
theorem own_d1_51 : decode method_2_code 51 = .ok (.dup, 1) := by decide +kernel
theorem own_d1_52 : decode method_2_code 52 = .ok (.iconst 0, 1) := by decide +kernel
theorem own_d1_53 : decode method_2_code 53 = .ok (.iload_n 1, 1) := by decide +kernel
theorem own_d1_54 : decode method_2_code 54 = .ok (.castore, 1) := by decide +kernel
theorem own_d1_55 : decode method_2_code 55 = .ok (.dup, 1) := by decide +kernel
theorem own_d1_56 : decode method_2_code 56 = .ok (.iconst 1, 1) := by decide +kernel
theorem own_d1_57 : decode method_2_code 57 = .ok (.iload_n 2, 1) := by decide +kernel
theorem own_d1_58 : decode method_2_code 58 = .ok (.castore, 1) := by decide +kernel
theorem own_d1_59 : decode method_2_code 59 = .ok (.dup, 1) := by decide +kernel
theorem own_d1_60 : decode method_2_code 60 = .ok (.iconst 2, 1) := by decide +kernel
theorem own_d1_61 : decode method_2_code 61 = .ok (.iload_n 3, 1) := by decide +kernel
theorem own_d1_62 : decode method_2_code 62 = .ok (.castore, 1) := by decide +kernel
theorem own_d1_63 : decode method_2_code 63 = .ok (.invokespecial 9, 3) := by decide +kernel
theorem own_d1_66 : decode method_2_code 66 = .ok (.areturn, 1) := by decide +kernel
theorem own_pn_com_example_dependency_wiring_dependencywiring_BeanNameReferenceEqualsPinLaw : plainName "com/example/dependency_wiring/dependencywiring/BeanNameReferenceEqualsPinLaw" = true := by first | (simp [plainName, overriddenIn]; done) | decide +kernel
theorem own_ef_rmMk (m : MethodId) (x0 : Int32) (x1 : Int32) (x2 : Int32) (x3 : Int32) : entryFrame m #[(.int x0), (.int x1), (.int x2), (.int x3)] 4 = mkF m 0 #[.val (.int x0), .val (.int x1), .val (.int x2), .val (.int x3)] [] := by first | (simp [entryFrame, mkF, argsToLocals, Value.category]; done) | rfl
def Q_rmMk (Z : State) (zC : Int32) (lx : Int32) (c0 : Int32) (c1 : Int32) (c2 : Int32) (h0 : Heap) (n0 : Nat) (vv_ : Option Value) (hh_ : Heap) (LL_ : List Loc) : Prop := ∃ x : Addr, ∃ t : Addr, ∃ kB : ClassId, vv_ = some (.ref x) ∧ Fr n0 LL_ ∧ Keep h0 hh_ [] ∧ h0.size ≤ x ∧ h0.size ≤ t ∧ Exa Z hh_ x "java/lang/String" ∧ Fld Z hh_ x "java/lang/String" "value" "[B" (.ref t) ∧ Fld Z hh_ x "java/lang/String" "coder" "B" (.int (0 : Int32)) ∧ Arv Z hh_ t kB .byte lx (bF lx c0 c1 c2) (.int (0 : Int32))
set_option maxRecDepth 65536 in
set_option maxHeartbeats 40000000 in
theorem rmMk (l : Launch) (Z : State) (a0 : Array Value) (hw : ∀ d ∈ tables_1, d.before a0 Z = true) (ws : List Jvm.Cond) (zC : Int32) (GS : Glob Z zC) (lx : Int32) (c0 : Int32) (c1 : Int32) (c2 : Int32) (h0 : Heap) (n0 : Nat) (Z0 : n0 ≤ h0.size) (O0 : Old Z n0 h0) (hl : (lx = (1 : Int32) ∨ lx = (2 : Int32) ∨ lx = (3 : Int32))) (ok0 : okF c0) (ok1 : okF c1) (ok2 : okF c2) :
    MetFree l (⟨"com/example/dependency_wiring/dependencywiring/BeanNameReferenceEqualsPinLaw", "mk", "(ICCC)Ljava/lang/String;"⟩ : MethodName) (head1 (Jvm.Cond.code (⟨"com/example/dependency_wiring/dependencywiring/BeanNameReferenceEqualsPinLaw", "mk", "(ICCC)Ljava/lang/String;"⟩ : MethodName) method_2_code 4 (some (.object "java/lang/String")) :: ws) ({ frames := 4, cells := 3, slots := 10, locals := 66 } : Room)) (fun aa_ UU_ => aa_ = #[(.int lx), (.int c0), (.int c1), (.int c2)] ∧ Z.Warmed39 UU_.vm ∧ UU_.heap = h0) (fun _ _ _ _ _ => True) (fun _ UU_ oo_ UV_ => ∃ vv_ LL_, oo_ = .returned vv_ ∧ Q_rmMk Z zC lx c0 c1 c2 h0 n0 vv_ UV_.heap LL_ ∧ FrameEnd UU_ oo_ UV_ LL_ ({ frames := 4, cells := 3, slots := 10, locals := 66 } : Room).cells ({ frames := 4, cells := 3, slots := 10, locals := 66 } : Room).slots) := by
  refine MetFree.of_bodySF (plainFor_of_name own_pn_com_example_dependency_wiring_dependencywiring_BeanNameReferenceEqualsPinLaw) hisR ?_
  intro p e s m args below meth c s₁ Bd hml0 hP hK
  obtain ⟨rfl, hZ, hh⟩ := hP
  have hx := Bd.exec
  have hby := Bd.bytes
  have hml : c.maxLocals = 4 := hml0
  have hown : s.vm.findClass "com/example/dependency_wiring/dependencywiring/BeanNameReferenceEqualsPinLaw" = some m.cls := findClass_of_methodNamed Bd.named
  have hnm := (name_of_methodNamed Bd.named Bd.method).1
  have X0 : Stand p l e ({ frames := 4, cells := 3, slots := 10, locals := 66 } : Room) s m #[(.int lx), (.int c0), (.int c1), (.int c2)] below meth c s₁ [] 0 0 := Stand.of_body Bd
  have e0 : s₁.heap = h0 := by rw [← hh, Bd.state]; rfl
  have N0 := Fr.nil n0
  have hn0 : Z.heap.size = n0 := O0.1
  have KT0 : Keep h0 h0 [] := Keep.refl _ _
  refine own_enter (Φ := fun oo_ UV_ => ∃ vv_ LL_, oo_ = .returned vv_ ∧ Q_rmMk Z zC lx c0 c1 c2 h0 n0 vv_ UV_.heap LL_ ∧ FrameEnd s oo_ UV_ LL_ ({ frames := 4, cells := 3, slots := 10, locals := 66 } : Room).cells ({ frames := 4, cells := 3, slots := 10, locals := 66 } : Room).slots) (own_ef_rmMk m lx c0 c1 c2) ?_
  refine own_by (T' := s₁) (g' := (mkF m 1 #[.val (.int lx), .val (.int c0), .val (.int c1), .val (.int c2)] [(.int lx)])) (fun _ kt_ => XS.iloadN X0.here hx rfl (hb hby own_d1_0) rfl kt_) ?_
  refine own_by (T' := s₁) (g' := (mkF m 2 #[.val (.int lx), .val (.int c0), .val (.int c1), .val (.int c2)] [(.int (1 : Int32)), (.int lx)])) (fun _ kt_ => XS.iconst X0.here hx rfl (hb hby own_d1_1) kt_) ?_
  by_cases hc1 : lx = (1 : Int32)
  · refine own_by (T' := s₁) (g' := (mkF m 5 #[.val (.int lx), .val (.int c0), .val (.int c1), .val (.int c2)] [])) (fun _ kt_ => XS.icmpNo X0.here hx rfl (hb hby own_d1_2) rfl (XT.ii_ne_f hc1) kt_) ?_
    obtain ⟨T2, h2, X2, e2, E2, A2, D2, -, st2⟩ := newO X0 hx hZ hown (hw _ (List.mem_of_getElem? (i := 4) rfl)) (hw _ (List.mem_of_getElem? (i := 5) rfl)) (hw _ (List.mem_of_getElem? (i := 6) rfl)) e0 (g := (mkF m 5 #[.val (.int lx), .val (.int c0), .val (.int c1), .val (.int c2)] [])) rfl (hb hby own_d1_5) (by decide) (by decide)
    obtain ⟨b2, g2⟩ : ∃ z, z = h0.size := ⟨_, rfl⟩
    rw [← g2] at A2 D2 st2
    have K3 : Keep h0 h2 [] := own_kext E2
    have zzK3 : h0.size ≤ h2.size := K3.1
    have oo4 : Old Z n0 h2 := O0.keep K3 all0
    have kt5 : Keep h0 h2 [] := KT0.trans K3 all0
    have lab2 : b2 < h2.size := A2.lt
    have f6 : Fld Z h2 b2 "java/lang/String" "coder" "B" (.int (0 : Int32)) := D2 (Or.inr (hw _ (List.mem_of_getElem? (i := 31) rfl))) (ty := .byte) (by decide)
    have f7 : Fld Z h2 b2 "java/lang/String" "value" "[B" .null := D2 (Or.inr (hw _ (List.mem_of_getElem? (i := 33) rfl))) (ty := (.array .byte)) (by decide)
    refine own_by (T' := T2) (g' := (mkF m 8 #[.val (.int lx), .val (.int c0), .val (.int c1), .val (.int c2)] [(.ref b2)])) st2 ?_
    refine own_by (T' := T2) (g' := (mkF m 9 #[.val (.int lx), .val (.int c0), .val (.int c1), .val (.int c2)] [(.ref b2), (.ref b2)])) (fun _ kt_ => XS.dup X2.here hx rfl (hb hby own_d1_8) rfl rfl kt_) ?_
    refine own_by (T' := T2) (g' := (mkF m 10 #[.val (.int lx), .val (.int c0), .val (.int c1), .val (.int c2)] [(.int (1 : Int32)), (.ref b2), (.ref b2)])) (fun _ kt_ => XS.iconst X2.here hx rfl (hb hby own_d1_9) kt_) ?_
    obtain ⟨T8, h8, k8, X8, e8, E8, A8, st8⟩ := newP X2 hx hZ (hw _ (List.mem_of_getElem? (i := 7) rfl)) e2 (g := (mkF m 10 #[.val (.int lx), .val (.int c0), .val (.int c1), .val (.int c2)] [(.int (1 : Int32)), (.ref b2), (.ref b2)])) rfl (hb hby own_d1_10) rfl (by decide) (cap := 1) (by decide) (by decide) (by decide) (by decide)
    obtain ⟨b8, g8⟩ : ∃ z, z = h2.size := ⟨_, rfl⟩
    rw [← g8] at A8 st8
    have K9 : Keep h2 h8 [] := own_kext E8
    have zzK9 : h2.size ≤ h8.size := K9.1
    have oo10 : Old Z n0 h8 := oo4.keep K9 all0
    have kt11 : Keep h0 h8 [] := kt5.trans K9 all0
    have lab8 : b8 < h8.size := A8.lt
    have f12 : Arv Z h8 b8 k8 .char (1 : Int32) [(.int (0 : Int32))] (.int (0 : Int32)) := (Arv.new A8 (by decide)).pad (pad_rep [] (.int (0 : Int32)) 1)
    refine own_by (T' := T8) (g' := (mkF m 12 #[.val (.int lx), .val (.int c0), .val (.int c1), .val (.int c2)] [(.ref b8), (.ref b2), (.ref b2)])) st8 ?_
    refine own_by (T' := T8) (g' := (mkF m 13 #[.val (.int lx), .val (.int c0), .val (.int c1), .val (.int c2)] [(.ref b8), (.ref b8), (.ref b2), (.ref b2)])) (fun _ kt_ => XS.dup X8.here hx rfl (hb hby own_d1_12) rfl rfl kt_) ?_
    refine own_by (T' := T8) (g' := (mkF m 14 #[.val (.int lx), .val (.int c0), .val (.int c1), .val (.int c2)] [(.int (0 : Int32)), (.ref b8), (.ref b8), (.ref b2), (.ref b2)])) (fun _ kt_ => XS.iconst X8.here hx rfl (hb hby own_d1_13) kt_) ?_
    refine own_by (T' := T8) (g' := (mkF m 15 #[.val (.int lx), .val (.int c0), .val (.int c1), .val (.int c2)] [(.int c0), (.int (0 : Int32)), (.ref b8), (.ref b8), (.ref b2), (.ref b2)])) (fun _ kt_ => XS.iloadN X8.here hx rfl (hb hby own_d1_14) rfl kt_) ?_
    obtain ⟨cl13, Ar13, q13, S13, M13, H13, G13⟩ := id f12
    have hin13 : ¬ ((0 : Int32) < 0 ∨ cl13.slots.size ≤ ((0 : Int32)).toNatClampNeg) := inb_of S13 ⟨by decide, by decide⟩
    obtain ⟨T13, h13, X13, e13, W13, st13⟩ := stC X8 hx hZ e8 Ar13 (j := (0 : Int32)) hin13 (g := (mkF m 15 #[.val (.int lx), .val (.int c0), .val (.int c1), .val (.int c2)] [(.int c0), (.int (0 : Int32)), (.ref b8), (.ref b8), (.ref b2), (.ref b2)])) rfl rfl (hb hby own_d1_15)
    rw [show nar .char c0 = c0 from own_narok ok0] at W13
    have K14 : Keep h8 h13 [b8] := Keep.of_wr W13
    have zzK14 : h8.size ≤ h13.size := K14.1
    have oo15 : Old Z n0 h13 := oo10.keep K14 (allS (by omega : n0 ≤ b8) all0)
    have kt16 : Keep h0 h13 [] := kt11.trans K14 (allS (Or.inr (by omega : h0.size ≤ b8)) all0)
    have f17 : Arv Z h13 b8 k8 .char (1 : Int32) [(.int c0)] (.int (0 : Int32)) := Arv.set Ar13 q13 S13 M13 H13 G13 (own_fitok ok0) W13 0 rfl (Nat.le_of_ble_eq_true rfl)
    have N18 := Fr.snoc X13 N0 (by omega : n0 ≤ b8)
    refine own_by (T' := T13) (g' := (mkF m 16 #[.val (.int lx), .val (.int c0), .val (.int c1), .val (.int c2)] [(.ref b8), (.ref b2), (.ref b2)])) st13 ?_
    have f19 : Exa Z h13 b2 "java/lang/String" := ((A2.keep K9).keep K14)
    have ne20 : @Ne Nat b2 b8 := by omega
    have f21 : Fld Z h13 b2 "java/lang/String" "value" "[B" .null := ((f7.keep K9 nin0).keep K14 (ninS ne20 nin0))
    have f22 : Fld Z h13 b2 "java/lang/String" "coder" "B" (.int (0 : Int32)) := ((f6.keep K9 nin0).keep K14 (ninS ne20 nin0))
    have ne23 : @Ne Nat b8 b2 := by omega
    obtain ⟨_, _, ⟨T24, L24, k24, n24⟩, -, X24, ⟨Lc24, hQ24, l24, y24, z24⟩, st24⟩ := X13.specialBack hx (y := (⟨"java/lang/String", "<init>", "([C)V"⟩ : MethodName)) rfl hown (mvT hZ (hw _ (List.mem_of_getElem? (i := 8) rfl))) (mvT hZ (hw _ (List.mem_of_getElem? (i := 9) rfl))) (mvT hZ (hw _ (List.mem_of_getElem? (i := 10) rfl))) (by decide) (backOf (W := 1) (rmS1_1 l Z a0 hw [] zC GS b2 b8 k8 c0 h13 n0 (by omega) oo15 f19 (by omega) f21 f22 f17 ne23 ok0.2) hZ (hw _ (List.mem_of_getElem? (i := 10) rfl)) (hw _ (List.mem_of_getElem? (i := 6) rfl)) (by decide) (by decide)) (g := (mkF m 16 #[.val (.int lx), .val (.int c0), .val (.int c1), .val (.int c2)] [(.ref b8), (.ref b2), (.ref b2)])) rfl (by rw [hml]; rfl) (Steps.refl _) (a := b2) (argsL := [(.ref b8)]) (rest := [(.ref b2)]) (lenOf own_pd_8 rfl) rfl (by show 2 * 0 + _ ≤ _; exact Nat.le_of_eq rfl) (hb hby own_d1_16) (fun _ _ => ⟨rfl, e13, (by decide : 2 + 1 ≤ _), (by decide : 5 + 1 ≤ _)⟩)
    dsimp only [Pt.U, Pt.locs, Pt.cells, Pt.slots] at X24 l24 y24 z24 st24 hQ24
    subst l24 y24 z24
    obtain ⟨t_25, kB_26, rfl, N24q, K24, p24_0, p24_1, p24_2, p24_3⟩ := hQ24
    have N27 := Fr.app N18 N24q
    have gt_25 : h13.size ≤ t_25 := p24_0
    have zzK24 : h13.size ≤ T24.heap.size := K24.1
    have oo28 : Old Z n0 T24.heap := oo15.keep K24 (allS (by omega : n0 ≤ b2) all0)
    have kt29 : Keep h0 T24.heap [] := kt16.trans K24 (allS (Or.inr (by omega : h0.size ≤ b2)) all0)
    refine own_by (T' := T24) (g' := (mkF m 19 #[.val (.int lx), .val (.int c0), .val (.int c1), .val (.int c2)] [(.ref b2)])) (fun _ kt_ => st24.trans kt_) ?_
    have f30 : Arv Z T24.heap t_25 kB_26 .byte lx (bF lx c0 c1 c2) (.int (0 : Int32)) := by rw [show lx = (1 : Int32) from hc1]; exact p24_3
    have la31 : @LT.lt Nat instLTNat t_25 T24.heap.size := p24_3.lt
    have f32 : Exa Z T24.heap b2 "java/lang/String" := (f19.keep K24)
    obtain ⟨fs33, hr33, hrun33, hended33, hW33, hsame33⟩ := X24.leave (v := some (.ref b2)) (fun h => by rw [Bd.returns] at h; cases h)
    refine ⟨_, _, retOut X24 hx (t := (.object "java/lang/String")) Bd.returns rfl (Or.inr (Or.inr (Or.inr (Or.inr ⟨rfl, rfl, rfl⟩)))) (hb hby own_d1_19) hr33, hrun33, hended33, _, _, rfl, ?_, ⟨_, rfl⟩, hW33, hsame33.mono (by decide) (by decide)⟩
    show Q_rmMk Z zC lx c0 c1 c2 h0 n0 _ T24.heap _
    exact ⟨b2, t_25, kB_26, rfl, N27, kt29, (by omega), (by omega), f32, p24_1, p24_2, f30⟩
  · refine own_by (T' := s₁) (g' := (mkF m 20 #[.val (.int lx), .val (.int c0), .val (.int c1), .val (.int c2)] [])) (fun _ kt_ => XS.icmpYes X0.here hx rfl (pc0 := 2) (pc' := 20) rfl (hb hby own_d1_2) rfl (XT.ii_ne_t hc1) (by decide) (by decide) kt_) ?_
    refine own_by (T' := s₁) (g' := (mkF m 21 #[.val (.int lx), .val (.int c0), .val (.int c1), .val (.int c2)] [(.int lx)])) (fun _ kt_ => XS.iloadN X0.here hx rfl (hb hby own_d1_20) rfl kt_) ?_
    refine own_by (T' := s₁) (g' := (mkF m 22 #[.val (.int lx), .val (.int c0), .val (.int c1), .val (.int c2)] [(.int (2 : Int32)), (.int lx)])) (fun _ kt_ => XS.iconst X0.here hx rfl (hb hby own_d1_21) kt_) ?_
    by_cases hc34 : lx = (2 : Int32)
    · refine own_by (T' := s₁) (g' := (mkF m 25 #[.val (.int lx), .val (.int c0), .val (.int c1), .val (.int c2)] [])) (fun _ kt_ => XS.icmpNo X0.here hx rfl (hb hby own_d1_22) rfl (XT.ii_ne_f hc34) kt_) ?_
      obtain ⟨T35, h35, X35, e35, E35, A35, D35, -, st35⟩ := newO X0 hx hZ hown (hw _ (List.mem_of_getElem? (i := 4) rfl)) (hw _ (List.mem_of_getElem? (i := 5) rfl)) (hw _ (List.mem_of_getElem? (i := 6) rfl)) e0 (g := (mkF m 25 #[.val (.int lx), .val (.int c0), .val (.int c1), .val (.int c2)] [])) rfl (hb hby own_d1_25) (by decide) (by decide)
      obtain ⟨b35, g35⟩ : ∃ z, z = h0.size := ⟨_, rfl⟩
      rw [← g35] at A35 D35 st35
      have K36 : Keep h0 h35 [] := own_kext E35
      have zzK36 : h0.size ≤ h35.size := K36.1
      have oo37 : Old Z n0 h35 := O0.keep K36 all0
      have kt38 : Keep h0 h35 [] := KT0.trans K36 all0
      have lab35 : b35 < h35.size := A35.lt
      have f39 : Fld Z h35 b35 "java/lang/String" "coder" "B" (.int (0 : Int32)) := D35 (Or.inr (hw _ (List.mem_of_getElem? (i := 31) rfl))) (ty := .byte) (by decide)
      have f40 : Fld Z h35 b35 "java/lang/String" "value" "[B" .null := D35 (Or.inr (hw _ (List.mem_of_getElem? (i := 33) rfl))) (ty := (.array .byte)) (by decide)
      refine own_by (T' := T35) (g' := (mkF m 28 #[.val (.int lx), .val (.int c0), .val (.int c1), .val (.int c2)] [(.ref b35)])) st35 ?_
      refine own_by (T' := T35) (g' := (mkF m 29 #[.val (.int lx), .val (.int c0), .val (.int c1), .val (.int c2)] [(.ref b35), (.ref b35)])) (fun _ kt_ => XS.dup X35.here hx rfl (hb hby own_d1_28) rfl rfl kt_) ?_
      refine own_by (T' := T35) (g' := (mkF m 30 #[.val (.int lx), .val (.int c0), .val (.int c1), .val (.int c2)] [(.int (2 : Int32)), (.ref b35), (.ref b35)])) (fun _ kt_ => XS.iconst X35.here hx rfl (hb hby own_d1_29) kt_) ?_
      obtain ⟨T41, h41, k41, X41, e41, E41, A41, st41⟩ := newP X35 hx hZ (hw _ (List.mem_of_getElem? (i := 7) rfl)) e35 (g := (mkF m 30 #[.val (.int lx), .val (.int c0), .val (.int c1), .val (.int c2)] [(.int (2 : Int32)), (.ref b35), (.ref b35)])) rfl (hb hby own_d1_30) rfl (by decide) (cap := 2) (by decide) (by decide) (by decide) (by decide)
      obtain ⟨b41, g41⟩ : ∃ z, z = h35.size := ⟨_, rfl⟩
      rw [← g41] at A41 st41
      have K42 : Keep h35 h41 [] := own_kext E41
      have zzK42 : h35.size ≤ h41.size := K42.1
      have oo43 : Old Z n0 h41 := oo37.keep K42 all0
      have kt44 : Keep h0 h41 [] := kt38.trans K42 all0
      have lab41 : b41 < h41.size := A41.lt
      have f45 : Arv Z h41 b41 k41 .char (2 : Int32) [(.int (0 : Int32)), (.int (0 : Int32))] (.int (0 : Int32)) := (Arv.new A41 (by decide)).pad (pad_rep [] (.int (0 : Int32)) 2)
      refine own_by (T' := T41) (g' := (mkF m 32 #[.val (.int lx), .val (.int c0), .val (.int c1), .val (.int c2)] [(.ref b41), (.ref b35), (.ref b35)])) st41 ?_
      refine own_by (T' := T41) (g' := (mkF m 33 #[.val (.int lx), .val (.int c0), .val (.int c1), .val (.int c2)] [(.ref b41), (.ref b41), (.ref b35), (.ref b35)])) (fun _ kt_ => XS.dup X41.here hx rfl (hb hby own_d1_32) rfl rfl kt_) ?_
      refine own_by (T' := T41) (g' := (mkF m 34 #[.val (.int lx), .val (.int c0), .val (.int c1), .val (.int c2)] [(.int (0 : Int32)), (.ref b41), (.ref b41), (.ref b35), (.ref b35)])) (fun _ kt_ => XS.iconst X41.here hx rfl (hb hby own_d1_33) kt_) ?_
      refine own_by (T' := T41) (g' := (mkF m 35 #[.val (.int lx), .val (.int c0), .val (.int c1), .val (.int c2)] [(.int c0), (.int (0 : Int32)), (.ref b41), (.ref b41), (.ref b35), (.ref b35)])) (fun _ kt_ => XS.iloadN X41.here hx rfl (hb hby own_d1_34) rfl kt_) ?_
      obtain ⟨cl46, Ar46, q46, S46, M46, H46, G46⟩ := id f45
      have hin46 : ¬ ((0 : Int32) < 0 ∨ cl46.slots.size ≤ ((0 : Int32)).toNatClampNeg) := inb_of S46 ⟨by decide, by decide⟩
      obtain ⟨T46, h46, X46, e46, W46, st46⟩ := stC X41 hx hZ e41 Ar46 (j := (0 : Int32)) hin46 (g := (mkF m 35 #[.val (.int lx), .val (.int c0), .val (.int c1), .val (.int c2)] [(.int c0), (.int (0 : Int32)), (.ref b41), (.ref b41), (.ref b35), (.ref b35)])) rfl rfl (hb hby own_d1_35)
      rw [show nar .char c0 = c0 from own_narok ok0] at W46
      have K47 : Keep h41 h46 [b41] := Keep.of_wr W46
      have zzK47 : h41.size ≤ h46.size := K47.1
      have oo48 : Old Z n0 h46 := oo43.keep K47 (allS (by omega : n0 ≤ b41) all0)
      have kt49 : Keep h0 h46 [] := kt44.trans K47 (allS (Or.inr (by omega : h0.size ≤ b41)) all0)
      have f50 : Arv Z h46 b41 k41 .char (2 : Int32) [(.int c0), (.int (0 : Int32))] (.int (0 : Int32)) := Arv.set Ar46 q46 S46 M46 H46 G46 (own_fitok ok0) W46 0 rfl (Nat.le_of_ble_eq_true rfl)
      have N51 := Fr.snoc X46 N0 (by omega : n0 ≤ b41)
      refine own_by (T' := T46) (g' := (mkF m 36 #[.val (.int lx), .val (.int c0), .val (.int c1), .val (.int c2)] [(.ref b41), (.ref b35), (.ref b35)])) st46 ?_
      refine own_by (T' := T46) (g' := (mkF m 37 #[.val (.int lx), .val (.int c0), .val (.int c1), .val (.int c2)] [(.ref b41), (.ref b41), (.ref b35), (.ref b35)])) (fun _ kt_ => XS.dup X46.here hx rfl (hb hby own_d1_36) rfl rfl kt_) ?_
      refine own_by (T' := T46) (g' := (mkF m 38 #[.val (.int lx), .val (.int c0), .val (.int c1), .val (.int c2)] [(.int (1 : Int32)), (.ref b41), (.ref b41), (.ref b35), (.ref b35)])) (fun _ kt_ => XS.iconst X46.here hx rfl (hb hby own_d1_37) kt_) ?_
      refine own_by (T' := T46) (g' := (mkF m 39 #[.val (.int lx), .val (.int c0), .val (.int c1), .val (.int c2)] [(.int c1), (.int (1 : Int32)), (.ref b41), (.ref b41), (.ref b35), (.ref b35)])) (fun _ kt_ => XS.iloadN X46.here hx rfl (hb hby own_d1_38) rfl kt_) ?_
      obtain ⟨cl52, Ar52, q52, S52, M52, H52, G52⟩ := id f50
      have hin52 : ¬ ((1 : Int32) < 0 ∨ cl52.slots.size ≤ ((1 : Int32)).toNatClampNeg) := inb_of S52 ⟨by decide, by decide⟩
      obtain ⟨T52, h52, X52, e52, W52, st52⟩ := stC X46 hx hZ e46 Ar52 (j := (1 : Int32)) hin52 (g := (mkF m 39 #[.val (.int lx), .val (.int c0), .val (.int c1), .val (.int c2)] [(.int c1), (.int (1 : Int32)), (.ref b41), (.ref b41), (.ref b35), (.ref b35)])) rfl rfl (hb hby own_d1_39)
      rw [show nar .char c1 = c1 from own_narok ok1] at W52
      have K53 : Keep h46 h52 [b41] := Keep.of_wr W52
      have zzK53 : h46.size ≤ h52.size := K53.1
      have oo54 : Old Z n0 h52 := oo48.keep K53 (allS (by omega : n0 ≤ b41) all0)
      have kt55 : Keep h0 h52 [] := kt49.trans K53 (allS (Or.inr (by omega : h0.size ≤ b41)) all0)
      have f56 : Arv Z h52 b41 k41 .char (2 : Int32) [(.int c0), (.int c1)] (.int (0 : Int32)) := Arv.set Ar52 q52 S52 M52 H52 G52 (own_fitok ok1) W52 1 rfl (Nat.le_of_ble_eq_true rfl)
      have N57 := Fr.snoc X52 N51 (by omega : n0 ≤ b41)
      refine own_by (T' := T52) (g' := (mkF m 40 #[.val (.int lx), .val (.int c0), .val (.int c1), .val (.int c2)] [(.ref b41), (.ref b35), (.ref b35)])) st52 ?_
      have f58 : Exa Z h52 b35 "java/lang/String" := (((A35.keep K42).keep K47).keep K53)
      have ne59 : @Ne Nat b35 b41 := by omega
      have f60 : Fld Z h52 b35 "java/lang/String" "value" "[B" .null := (((f40.keep K42 nin0).keep K47 (ninS ne59 nin0)).keep K53 (ninS ne59 nin0))
      have f61 : Fld Z h52 b35 "java/lang/String" "coder" "B" (.int (0 : Int32)) := (((f39.keep K42 nin0).keep K47 (ninS ne59 nin0)).keep K53 (ninS ne59 nin0))
      have ne62 : @Ne Nat b41 b35 := by omega
      obtain ⟨_, _, ⟨T63, L63, k63, n63⟩, -, X63, ⟨Lc63, hQ63, l63, y63, z63⟩, st63⟩ := X52.specialBack hx (y := (⟨"java/lang/String", "<init>", "([C)V"⟩ : MethodName)) rfl hown (mvT hZ (hw _ (List.mem_of_getElem? (i := 8) rfl))) (mvT hZ (hw _ (List.mem_of_getElem? (i := 9) rfl))) (mvT hZ (hw _ (List.mem_of_getElem? (i := 10) rfl))) (by decide) (backOf (W := 1) (rmS1_2 l Z a0 hw [] zC GS b35 b41 k41 c0 c1 h52 n0 (by omega) oo54 f58 (by omega) f60 f61 f56 ne62 ok0.2 ok1.2) hZ (hw _ (List.mem_of_getElem? (i := 10) rfl)) (hw _ (List.mem_of_getElem? (i := 6) rfl)) (by decide) (by decide)) (g := (mkF m 40 #[.val (.int lx), .val (.int c0), .val (.int c1), .val (.int c2)] [(.ref b41), (.ref b35), (.ref b35)])) rfl (by rw [hml]; rfl) (Steps.refl _) (a := b35) (argsL := [(.ref b41)]) (rest := [(.ref b35)]) (lenOf own_pd_8 rfl) rfl (by show 2 * 0 + _ ≤ _; exact Nat.le_of_eq rfl) (hb hby own_d1_40) (fun _ _ => ⟨rfl, e52, (by decide : 2 + 1 ≤ _), (by decide : 6 + 2 ≤ _)⟩)
      dsimp only [Pt.U, Pt.locs, Pt.cells, Pt.slots] at X63 l63 y63 z63 st63 hQ63
      subst l63 y63 z63
      obtain ⟨t_64, kB_65, rfl, N63q, K63, p63_0, p63_1, p63_2, p63_3⟩ := hQ63
      have N66 := Fr.app N57 N63q
      have gt_64 : h52.size ≤ t_64 := p63_0
      have zzK63 : h52.size ≤ T63.heap.size := K63.1
      have oo67 : Old Z n0 T63.heap := oo54.keep K63 (allS (by omega : n0 ≤ b35) all0)
      have kt68 : Keep h0 T63.heap [] := kt55.trans K63 (allS (Or.inr (by omega : h0.size ≤ b35)) all0)
      refine own_by (T' := T63) (g' := (mkF m 43 #[.val (.int lx), .val (.int c0), .val (.int c1), .val (.int c2)] [(.ref b35)])) (fun _ kt_ => st63.trans kt_) ?_
      have f69 : Arv Z T63.heap t_64 kB_65 .byte lx (bF lx c0 c1 c2) (.int (0 : Int32)) := by rw [show lx = (2 : Int32) from hc34]; exact p63_3
      have la70 : @LT.lt Nat instLTNat t_64 T63.heap.size := p63_3.lt
      have f71 : Exa Z T63.heap b35 "java/lang/String" := (f58.keep K63)
      obtain ⟨fs72, hr72, hrun72, hended72, hW72, hsame72⟩ := X63.leave (v := some (.ref b35)) (fun h => by rw [Bd.returns] at h; cases h)
      refine ⟨_, _, retOut X63 hx (t := (.object "java/lang/String")) Bd.returns rfl (Or.inr (Or.inr (Or.inr (Or.inr ⟨rfl, rfl, rfl⟩)))) (hb hby own_d1_43) hr72, hrun72, hended72, _, _, rfl, ?_, ⟨_, rfl⟩, hW72, hsame72.mono (by decide) (by decide)⟩
      show Q_rmMk Z zC lx c0 c1 c2 h0 n0 _ T63.heap _
      exact ⟨b35, t_64, kB_65, rfl, N66, kt68, (by omega), (by omega), f71, p63_1, p63_2, f69⟩
    · refine own_by (T' := s₁) (g' := (mkF m 44 #[.val (.int lx), .val (.int c0), .val (.int c1), .val (.int c2)] [])) (fun _ kt_ => XS.icmpYes X0.here hx rfl (pc0 := 22) (pc' := 44) rfl (hb hby own_d1_22) rfl (XT.ii_ne_t hc34) (by decide) (by decide) kt_) ?_
      obtain ⟨T73, h73, X73, e73, E73, A73, D73, -, st73⟩ := newO X0 hx hZ hown (hw _ (List.mem_of_getElem? (i := 4) rfl)) (hw _ (List.mem_of_getElem? (i := 5) rfl)) (hw _ (List.mem_of_getElem? (i := 6) rfl)) e0 (g := (mkF m 44 #[.val (.int lx), .val (.int c0), .val (.int c1), .val (.int c2)] [])) rfl (hb hby own_d1_44) (by decide) (by decide)
      obtain ⟨b73, g73⟩ : ∃ z, z = h0.size := ⟨_, rfl⟩
      rw [← g73] at A73 D73 st73
      have K74 : Keep h0 h73 [] := own_kext E73
      have zzK74 : h0.size ≤ h73.size := K74.1
      have oo75 : Old Z n0 h73 := O0.keep K74 all0
      have kt76 : Keep h0 h73 [] := KT0.trans K74 all0
      have lab73 : b73 < h73.size := A73.lt
      have f77 : Fld Z h73 b73 "java/lang/String" "coder" "B" (.int (0 : Int32)) := D73 (Or.inr (hw _ (List.mem_of_getElem? (i := 31) rfl))) (ty := .byte) (by decide)
      have f78 : Fld Z h73 b73 "java/lang/String" "value" "[B" .null := D73 (Or.inr (hw _ (List.mem_of_getElem? (i := 33) rfl))) (ty := (.array .byte)) (by decide)
      refine own_by (T' := T73) (g' := (mkF m 47 #[.val (.int lx), .val (.int c0), .val (.int c1), .val (.int c2)] [(.ref b73)])) st73 ?_
      refine own_by (T' := T73) (g' := (mkF m 48 #[.val (.int lx), .val (.int c0), .val (.int c1), .val (.int c2)] [(.ref b73), (.ref b73)])) (fun _ kt_ => XS.dup X73.here hx rfl (hb hby own_d1_47) rfl rfl kt_) ?_
      refine own_by (T' := T73) (g' := (mkF m 49 #[.val (.int lx), .val (.int c0), .val (.int c1), .val (.int c2)] [(.int (3 : Int32)), (.ref b73), (.ref b73)])) (fun _ kt_ => XS.iconst X73.here hx rfl (hb hby own_d1_48) kt_) ?_
      obtain ⟨T79, h79, k79, X79, e79, E79, A79, st79⟩ := newP X73 hx hZ (hw _ (List.mem_of_getElem? (i := 7) rfl)) e73 (g := (mkF m 49 #[.val (.int lx), .val (.int c0), .val (.int c1), .val (.int c2)] [(.int (3 : Int32)), (.ref b73), (.ref b73)])) rfl (hb hby own_d1_49) rfl (by decide) (cap := 3) (by decide) (by decide) (by decide) (by decide)
      obtain ⟨b79, g79⟩ : ∃ z, z = h73.size := ⟨_, rfl⟩
      rw [← g79] at A79 st79
      have K80 : Keep h73 h79 [] := own_kext E79
      have zzK80 : h73.size ≤ h79.size := K80.1
      have oo81 : Old Z n0 h79 := oo75.keep K80 all0
      have kt82 : Keep h0 h79 [] := kt76.trans K80 all0
      have lab79 : b79 < h79.size := A79.lt
      have f83 : Arv Z h79 b79 k79 .char (3 : Int32) [(.int (0 : Int32)), (.int (0 : Int32)), (.int (0 : Int32))] (.int (0 : Int32)) := (Arv.new A79 (by decide)).pad (pad_rep [] (.int (0 : Int32)) 3)
      refine own_by (T' := T79) (g' := (mkF m 51 #[.val (.int lx), .val (.int c0), .val (.int c1), .val (.int c2)] [(.ref b79), (.ref b73), (.ref b73)])) st79 ?_
      refine own_by (T' := T79) (g' := (mkF m 52 #[.val (.int lx), .val (.int c0), .val (.int c1), .val (.int c2)] [(.ref b79), (.ref b79), (.ref b73), (.ref b73)])) (fun _ kt_ => XS.dup X79.here hx rfl (hb hby own_d1_51) rfl rfl kt_) ?_
      refine own_by (T' := T79) (g' := (mkF m 53 #[.val (.int lx), .val (.int c0), .val (.int c1), .val (.int c2)] [(.int (0 : Int32)), (.ref b79), (.ref b79), (.ref b73), (.ref b73)])) (fun _ kt_ => XS.iconst X79.here hx rfl (hb hby own_d1_52) kt_) ?_
      refine own_by (T' := T79) (g' := (mkF m 54 #[.val (.int lx), .val (.int c0), .val (.int c1), .val (.int c2)] [(.int c0), (.int (0 : Int32)), (.ref b79), (.ref b79), (.ref b73), (.ref b73)])) (fun _ kt_ => XS.iloadN X79.here hx rfl (hb hby own_d1_53) rfl kt_) ?_
      obtain ⟨cl84, Ar84, q84, S84, M84, H84, G84⟩ := id f83
      have hin84 : ¬ ((0 : Int32) < 0 ∨ cl84.slots.size ≤ ((0 : Int32)).toNatClampNeg) := inb_of S84 ⟨by decide, by decide⟩
      obtain ⟨T84, h84, X84, e84, W84, st84⟩ := stC X79 hx hZ e79 Ar84 (j := (0 : Int32)) hin84 (g := (mkF m 54 #[.val (.int lx), .val (.int c0), .val (.int c1), .val (.int c2)] [(.int c0), (.int (0 : Int32)), (.ref b79), (.ref b79), (.ref b73), (.ref b73)])) rfl rfl (hb hby own_d1_54)
      rw [show nar .char c0 = c0 from own_narok ok0] at W84
      have K85 : Keep h79 h84 [b79] := Keep.of_wr W84
      have zzK85 : h79.size ≤ h84.size := K85.1
      have oo86 : Old Z n0 h84 := oo81.keep K85 (allS (by omega : n0 ≤ b79) all0)
      have kt87 : Keep h0 h84 [] := kt82.trans K85 (allS (Or.inr (by omega : h0.size ≤ b79)) all0)
      have f88 : Arv Z h84 b79 k79 .char (3 : Int32) [(.int c0), (.int (0 : Int32)), (.int (0 : Int32))] (.int (0 : Int32)) := Arv.set Ar84 q84 S84 M84 H84 G84 (own_fitok ok0) W84 0 rfl (Nat.le_of_ble_eq_true rfl)
      have N89 := Fr.snoc X84 N0 (by omega : n0 ≤ b79)
      refine own_by (T' := T84) (g' := (mkF m 55 #[.val (.int lx), .val (.int c0), .val (.int c1), .val (.int c2)] [(.ref b79), (.ref b73), (.ref b73)])) st84 ?_
      refine own_by (T' := T84) (g' := (mkF m 56 #[.val (.int lx), .val (.int c0), .val (.int c1), .val (.int c2)] [(.ref b79), (.ref b79), (.ref b73), (.ref b73)])) (fun _ kt_ => XS.dup X84.here hx rfl (hb hby own_d1_55) rfl rfl kt_) ?_
      refine own_by (T' := T84) (g' := (mkF m 57 #[.val (.int lx), .val (.int c0), .val (.int c1), .val (.int c2)] [(.int (1 : Int32)), (.ref b79), (.ref b79), (.ref b73), (.ref b73)])) (fun _ kt_ => XS.iconst X84.here hx rfl (hb hby own_d1_56) kt_) ?_
      refine own_by (T' := T84) (g' := (mkF m 58 #[.val (.int lx), .val (.int c0), .val (.int c1), .val (.int c2)] [(.int c1), (.int (1 : Int32)), (.ref b79), (.ref b79), (.ref b73), (.ref b73)])) (fun _ kt_ => XS.iloadN X84.here hx rfl (hb hby own_d1_57) rfl kt_) ?_
      obtain ⟨cl90, Ar90, q90, S90, M90, H90, G90⟩ := id f88
      have hin90 : ¬ ((1 : Int32) < 0 ∨ cl90.slots.size ≤ ((1 : Int32)).toNatClampNeg) := inb_of S90 ⟨by decide, by decide⟩
      obtain ⟨T90, h90, X90, e90, W90, st90⟩ := stC X84 hx hZ e84 Ar90 (j := (1 : Int32)) hin90 (g := (mkF m 58 #[.val (.int lx), .val (.int c0), .val (.int c1), .val (.int c2)] [(.int c1), (.int (1 : Int32)), (.ref b79), (.ref b79), (.ref b73), (.ref b73)])) rfl rfl (hb hby own_d1_58)
      rw [show nar .char c1 = c1 from own_narok ok1] at W90
      have K91 : Keep h84 h90 [b79] := Keep.of_wr W90
      have zzK91 : h84.size ≤ h90.size := K91.1
      have oo92 : Old Z n0 h90 := oo86.keep K91 (allS (by omega : n0 ≤ b79) all0)
      have kt93 : Keep h0 h90 [] := kt87.trans K91 (allS (Or.inr (by omega : h0.size ≤ b79)) all0)
      have f94 : Arv Z h90 b79 k79 .char (3 : Int32) [(.int c0), (.int c1), (.int (0 : Int32))] (.int (0 : Int32)) := Arv.set Ar90 q90 S90 M90 H90 G90 (own_fitok ok1) W90 1 rfl (Nat.le_of_ble_eq_true rfl)
      have N95 := Fr.snoc X90 N89 (by omega : n0 ≤ b79)
      refine own_by (T' := T90) (g' := (mkF m 59 #[.val (.int lx), .val (.int c0), .val (.int c1), .val (.int c2)] [(.ref b79), (.ref b73), (.ref b73)])) st90 ?_
      refine own_by (T' := T90) (g' := (mkF m 60 #[.val (.int lx), .val (.int c0), .val (.int c1), .val (.int c2)] [(.ref b79), (.ref b79), (.ref b73), (.ref b73)])) (fun _ kt_ => XS.dup X90.here hx rfl (hb hby own_d1_59) rfl rfl kt_) ?_
      refine own_by (T' := T90) (g' := (mkF m 61 #[.val (.int lx), .val (.int c0), .val (.int c1), .val (.int c2)] [(.int (2 : Int32)), (.ref b79), (.ref b79), (.ref b73), (.ref b73)])) (fun _ kt_ => XS.iconst X90.here hx rfl (hb hby own_d1_60) kt_) ?_
      refine own_by (T' := T90) (g' := (mkF m 62 #[.val (.int lx), .val (.int c0), .val (.int c1), .val (.int c2)] [(.int c2), (.int (2 : Int32)), (.ref b79), (.ref b79), (.ref b73), (.ref b73)])) (fun _ kt_ => XS.iloadN X90.here hx rfl (hb hby own_d1_61) rfl kt_) ?_
      obtain ⟨cl96, Ar96, q96, S96, M96, H96, G96⟩ := id f94
      have hin96 : ¬ ((2 : Int32) < 0 ∨ cl96.slots.size ≤ ((2 : Int32)).toNatClampNeg) := inb_of S96 ⟨by decide, by decide⟩
      obtain ⟨T96, h96, X96, e96, W96, st96⟩ := stC X90 hx hZ e90 Ar96 (j := (2 : Int32)) hin96 (g := (mkF m 62 #[.val (.int lx), .val (.int c0), .val (.int c1), .val (.int c2)] [(.int c2), (.int (2 : Int32)), (.ref b79), (.ref b79), (.ref b73), (.ref b73)])) rfl rfl (hb hby own_d1_62)
      rw [show nar .char c2 = c2 from own_narok ok2] at W96
      have K97 : Keep h90 h96 [b79] := Keep.of_wr W96
      have zzK97 : h90.size ≤ h96.size := K97.1
      have oo98 : Old Z n0 h96 := oo92.keep K97 (allS (by omega : n0 ≤ b79) all0)
      have kt99 : Keep h0 h96 [] := kt93.trans K97 (allS (Or.inr (by omega : h0.size ≤ b79)) all0)
      have f100 : Arv Z h96 b79 k79 .char (3 : Int32) [(.int c0), (.int c1), (.int c2)] (.int (0 : Int32)) := Arv.set Ar96 q96 S96 M96 H96 G96 (own_fitok ok2) W96 2 rfl (Nat.le_of_ble_eq_true rfl)
      have N101 := Fr.snoc X96 N95 (by omega : n0 ≤ b79)
      refine own_by (T' := T96) (g' := (mkF m 63 #[.val (.int lx), .val (.int c0), .val (.int c1), .val (.int c2)] [(.ref b79), (.ref b73), (.ref b73)])) st96 ?_
      have f102 : Exa Z h96 b73 "java/lang/String" := ((((A73.keep K80).keep K85).keep K91).keep K97)
      have ne103 : @Ne Nat b73 b79 := by omega
      have f104 : Fld Z h96 b73 "java/lang/String" "value" "[B" .null := ((((f78.keep K80 nin0).keep K85 (ninS ne103 nin0)).keep K91 (ninS ne103 nin0)).keep K97 (ninS ne103 nin0))
      have f105 : Fld Z h96 b73 "java/lang/String" "coder" "B" (.int (0 : Int32)) := ((((f77.keep K80 nin0).keep K85 (ninS ne103 nin0)).keep K91 (ninS ne103 nin0)).keep K97 (ninS ne103 nin0))
      have ne106 : @Ne Nat b79 b73 := by omega
      obtain ⟨_, _, ⟨T107, L107, k107, n107⟩, -, X107, ⟨Lc107, hQ107, l107, y107, z107⟩, st107⟩ := X96.specialBack hx (y := (⟨"java/lang/String", "<init>", "([C)V"⟩ : MethodName)) rfl hown (mvT hZ (hw _ (List.mem_of_getElem? (i := 8) rfl))) (mvT hZ (hw _ (List.mem_of_getElem? (i := 9) rfl))) (mvT hZ (hw _ (List.mem_of_getElem? (i := 10) rfl))) (by decide) (backOf (W := 1) (rmS1_3 l Z a0 hw [] zC GS b73 b79 k79 c0 c1 c2 h96 n0 (by omega) oo98 f102 (by omega) f104 f105 f100 ne106 ok0.2 ok1.2 ok2.2) hZ (hw _ (List.mem_of_getElem? (i := 10) rfl)) (hw _ (List.mem_of_getElem? (i := 6) rfl)) (by decide) (by decide)) (g := (mkF m 63 #[.val (.int lx), .val (.int c0), .val (.int c1), .val (.int c2)] [(.ref b79), (.ref b73), (.ref b73)])) rfl (by rw [hml]; rfl) (Steps.refl _) (a := b73) (argsL := [(.ref b79)]) (rest := [(.ref b73)]) (lenOf own_pd_8 rfl) rfl (by show 2 * 0 + _ ≤ _; exact Nat.le_of_eq rfl) (hb hby own_d1_63) (fun _ _ => ⟨rfl, e96, (by decide : 2 + 1 ≤ _), (by decide : 7 + 3 ≤ _)⟩)
      dsimp only [Pt.U, Pt.locs, Pt.cells, Pt.slots] at X107 l107 y107 z107 st107 hQ107
      subst l107 y107 z107
      obtain ⟨t_108, kB_109, rfl, N107q, K107, p107_0, p107_1, p107_2, p107_3⟩ := hQ107
      have N110 := Fr.app N101 N107q
      have gt_108 : h96.size ≤ t_108 := p107_0
      have zzK107 : h96.size ≤ T107.heap.size := K107.1
      have oo111 : Old Z n0 T107.heap := oo98.keep K107 (allS (by omega : n0 ≤ b73) all0)
      have kt112 : Keep h0 T107.heap [] := kt99.trans K107 (allS (Or.inr (by omega : h0.size ≤ b73)) all0)
      refine own_by (T' := T107) (g' := (mkF m 66 #[.val (.int lx), .val (.int c0), .val (.int c1), .val (.int c2)] [(.ref b73)])) (fun _ kt_ => st107.trans kt_) ?_
      have f113 : Arv Z T107.heap t_108 kB_109 .byte lx (bF lx c0 c1 c2) (.int (0 : Int32)) := by rw [show lx = (3 : Int32) from hl.resolve_left hc1 |>.resolve_left hc34]; exact p107_3
      have la114 : @LT.lt Nat instLTNat t_108 T107.heap.size := p107_3.lt
      have f115 : Exa Z T107.heap b73 "java/lang/String" := (f102.keep K107)
      obtain ⟨fs116, hr116, hrun116, hended116, hW116, hsame116⟩ := X107.leave (v := some (.ref b73)) (fun h => by rw [Bd.returns] at h; cases h)
      refine ⟨_, _, retOut X107 hx (t := (.object "java/lang/String")) Bd.returns rfl (Or.inr (Or.inr (Or.inr (Or.inr ⟨rfl, rfl, rfl⟩)))) (hb hby own_d1_66) hr116, hrun116, hended116, _, _, rfl, ?_, ⟨_, rfl⟩, hW116, hsame116.mono (by decide) (by decide)⟩
      show Q_rmMk Z zC lx c0 c1 c2 h0 n0 _ T107.heap _
      exact ⟨b73, t_108, kB_109, rfl, N110, kt112, (by omega), (by omega), f115, p107_1, p107_2, f113⟩
theorem own_pd_9 : parseMethodDescriptor "(ICCC)Ljava/lang/String;" = some ⟨[.int, .char, .char, .char], some (.object "java/lang/String")⟩ := by decide +kernel
theorem own_pd_10 : parseMethodDescriptor "(Ljava/lang/String;)V" = some ⟨[(.object "java/lang/String")], none⟩ := by decide +kernel
theorem own_ef_rm0 (m : MethodId) (x0 : Int32) (x1 : Int32) (x2 : Int32) (x3 : Int32) : entryFrame m #[(.int x0), (.int x1), (.int x2), (.int x3)] maxLocals = mkF m 0 #[.val (.int x0), .val (.int x1), .val (.int x2), .val (.int x3), .unset, .unset, .unset, .unset, .unset, .unset, .unset, .unset, .unset, .unset, .unset, .unset, .unset, .unset] [] := by first | (simp [entryFrame, mkF, argsToLocals, Value.category, maxLocals]; done) | rfl
def Q_rm0 (Z : State) (zC : Int32) (p0 : Int32) (p1 : Int32) (p2 : Int32) (p3 : Int32) (h0 : Heap) (n0 : Nat) (vv_ : Option Value) (hh_ : Heap) (LL_ : List Loc) : Prop := vv_ = some (.int (1 : Int32)) ∧ Fr n0 LL_
set_option maxRecDepth 65536 in
set_option maxHeartbeats 40000000 in
theorem rm0 (l : Launch) (Z : State) (a0 : Array Value) (hw : ∀ d ∈ tables_1, d.before a0 Z = true) (ws : List Jvm.Cond) (zC : Int32) (GS : Glob Z zC) (p0 : Int32) (p1 : Int32) (p2 : Int32) (p3 : Int32) (h0 : Heap) (n0 : Nat) (Z0 : n0 ≤ h0.size) (O0 : Old Z n0 h0) :
    MetFree l x (head1 (Jvm.Cond.code x code maxLocals ret :: ws) room_1) (fun aa_ UU_ => aa_ = #[(.int p0), (.int p1), (.int p2), (.int p3)] ∧ Z.Warmed39 UU_.vm ∧ UU_.heap = h0) (fun _ _ _ _ _ => True) (fun _ UU_ oo_ UV_ => ∃ vv_ LL_, oo_ = .returned vv_ ∧ Q_rm0 Z zC p0 p1 p2 p3 h0 n0 vv_ UV_.heap LL_ ∧ ReturnedEndW UU_ oo_ UV_ LL_ 12 94) := by
  refine MetFree.of_bodySF (plainFor_of_name own_pn_com_example_dependency_wiring_dependencywiring_BeanNameReferenceEqualsPinLaw) hisR ?_
  intro p e s m args below meth c s₁ Bd hml0 hP hK
  obtain ⟨rfl, hZ, hh⟩ := hP
  have hx := Bd.exec
  have hby := Bd.bytes
  have hml : c.maxLocals = 18 := hml0
  have hown : s.vm.findClass "com/example/dependency_wiring/dependencywiring/BeanNameReferenceEqualsPinLaw" = some m.cls := findClass_of_methodNamed Bd.named
  have hnm := (name_of_methodNamed Bd.named Bd.method).1
  have X0 : Stand p l e room_1 (s.setVm s.vm) m #[(.int p0), (.int p1), (.int p2), (.int p3)] below meth c s₁ [] 0 0 := Stand.of_body Bd
  have e0 : s₁.heap = h0 := by rw [← hh, Bd.state]; rfl
  have N0 := Fr.nil n0
  have hn0 : Z.heap.size = n0 := O0.1
  have KT0 : Keep h0 h0 [] := Keep.refl _ _
  have hS0 : s.Since s.vm h0.size := (State.WarmedH.refl s).since _
  refine own_enter (Φ := fun oo_ UV_ => ∃ vv_ LL_, oo_ = .returned vv_ ∧ Q_rm0 Z zC p0 p1 p2 p3 h0 n0 vv_ UV_.heap LL_ ∧ ReturnedEndW s oo_ UV_ LL_ 12 94) (own_ef_rm0 m p0 p1 p2 p3) ?_
  refine own_by (T' := s₁) (g' := (mkF m 1 #[.val (.int p0), .val (.int p1), .val (.int p2), .val (.int p3), .unset, .unset, .unset, .unset, .unset, .unset, .unset, .unset, .unset, .unset, .unset, .unset, .unset, .unset] [(.int p3)])) (fun _ kt_ => XS.iloadN X0.here hx rfl (hb hby at_0) rfl kt_) ?_
  refine own_by (T' := s₁) (g' := (mkF m 2 #[.val (.int p0), .val (.int p1), .val (.int p2), .val (.int p3), .unset, .unset, .unset, .unset, .unset, .unset, .unset, .unset, .unset, .unset, .unset, .unset, .unset, .unset] [(.int (3 : Int32)), (.int p3)])) (fun _ kt_ => XS.iconst X0.here hx rfl (hb hby at_1) kt_) ?_
  refine own_by (T' := s₁) (g' := (mkF m 3 #[.val (.int p0), .val (.int p1), .val (.int p2), .val (.int p3), .unset, .unset, .unset, .unset, .unset, .unset, .unset, .unset, .unset, .unset, .unset, .unset, .unset, .unset] [(.int (p3 &&& (3 : Int32)))])) (fun _ kt_ => XS.iand X0.here hx rfl (hb hby at_2) rfl kt_) ?_
  refine own_by (T' := s₁) (g' := (mkF m 4 #[.val (.int p0), .val (.int p1), .val (.int p2), .val (.int p3), .unset, .unset, .unset, .unset, .unset, .unset, .unset, .unset, .unset, .unset, .unset, .unset, .unset, .unset] [(.int (3 : Int32)), (.int (p3 &&& (3 : Int32)))])) (fun _ kt_ => XS.iconst X0.here hx rfl (hb hby at_3) kt_) ?_
  refine own_by (T' := s₁) (g' := (mkF m 5 #[.val (.int p0), .val (.int p1), .val (.int p2), .val (.int p3), .unset, .unset, .unset, .unset, .unset, .unset, .unset, .unset, .unset, .unset, .unset, .unset, .unset, .unset] [(.int ((p3 &&& (3 : Int32)) % (3 : Int32)))])) (fun _ kt_ => iremM X0 hx rfl (hb hby at_4) rfl (by decide) kt_) ?_
  refine own_by (T' := s₁) (g' := (mkF m 6 #[.val (.int p0), .val (.int p1), .val (.int p2), .val (.int p3), .unset, .unset, .unset, .unset, .unset, .unset, .unset, .unset, .unset, .unset, .unset, .unset, .unset, .unset] [(.int (1 : Int32)), (.int ((p3 &&& (3 : Int32)) % (3 : Int32)))])) (fun _ kt_ => XS.iconst X0.here hx rfl (hb hby at_5) kt_) ?_
  refine own_by (T' := s₁) (g' := (mkF m 7 #[.val (.int p0), .val (.int p1), .val (.int p2), .val (.int p3), .unset, .unset, .unset, .unset, .unset, .unset, .unset, .unset, .unset, .unset, .unset, .unset, .unset, .unset] [(.int (((p3 &&& (3 : Int32)) % (3 : Int32)) + (1 : Int32)))])) (fun _ kt_ => XS.iadd X0.here hx rfl (hb hby at_6) rfl kt_) ?_
  refine own_by (T' := s₁) (g' := (mkF m 9 #[.val (.int p0), .val (.int p1), .val (.int p2), .val (.int p3), .val (.int (((p3 &&& (3 : Int32)) % (3 : Int32)) + (1 : Int32))), .unset, .unset, .unset, .unset, .unset, .unset, .unset, .unset, .unset, .unset, .unset, .unset, .unset] [])) (fun _ kt_ => XS.istore X0.here hx rfl (hb hby at_7) rfl (l' := #[.val (.int p0), .val (.int p1), .val (.int p2), .val (.int p3), .val (.int (((p3 &&& (3 : Int32)) % (3 : Int32)) + (1 : Int32))), .unset, .unset, .unset, .unset, .unset, .unset, .unset, .unset, .unset, .unset, .unset, .unset, .unset]) rfl kt_) ?_
  refine own_by (T' := s₁) (g' := (mkF m 10 #[.val (.int p0), .val (.int p1), .val (.int p2), .val (.int p3), .val (.int (((p3 &&& (3 : Int32)) % (3 : Int32)) + (1 : Int32))), .unset, .unset, .unset, .unset, .unset, .unset, .unset, .unset, .unset, .unset, .unset, .unset, .unset] [(.int p3)])) (fun _ kt_ => XS.iloadN X0.here hx rfl (hb hby at_9) rfl kt_) ?_
  refine own_by (T' := s₁) (g' := (mkF m 11 #[.val (.int p0), .val (.int p1), .val (.int p2), .val (.int p3), .val (.int (((p3 &&& (3 : Int32)) % (3 : Int32)) + (1 : Int32))), .unset, .unset, .unset, .unset, .unset, .unset, .unset, .unset, .unset, .unset, .unset, .unset, .unset] [(.int (2 : Int32)), (.int p3)])) (fun _ kt_ => XS.iconst X0.here hx rfl (hb hby at_10) kt_) ?_
  refine own_by (T' := s₁) (g' := (mkF m 12 #[.val (.int p0), .val (.int p1), .val (.int p2), .val (.int p3), .val (.int (((p3 &&& (3 : Int32)) % (3 : Int32)) + (1 : Int32))), .unset, .unset, .unset, .unset, .unset, .unset, .unset, .unset, .unset, .unset, .unset, .unset, .unset] [(.int ((p3.toUInt32 >>> ((2 : Int32) &&& 31).toUInt32).toInt32))])) (fun _ kt_ => XS.iushr X0.here hx rfl (hb hby at_11) rfl kt_) ?_
  refine own_by (T' := s₁) (g' := (mkF m 13 #[.val (.int p0), .val (.int p1), .val (.int p2), .val (.int p3), .val (.int (((p3 &&& (3 : Int32)) % (3 : Int32)) + (1 : Int32))), .unset, .unset, .unset, .unset, .unset, .unset, .unset, .unset, .unset, .unset, .unset, .unset, .unset] [(.int (3 : Int32)), (.int ((p3.toUInt32 >>> ((2 : Int32) &&& 31).toUInt32).toInt32))])) (fun _ kt_ => XS.iconst X0.here hx rfl (hb hby at_12) kt_) ?_
  refine own_by (T' := s₁) (g' := (mkF m 14 #[.val (.int p0), .val (.int p1), .val (.int p2), .val (.int p3), .val (.int (((p3 &&& (3 : Int32)) % (3 : Int32)) + (1 : Int32))), .unset, .unset, .unset, .unset, .unset, .unset, .unset, .unset, .unset, .unset, .unset, .unset, .unset] [(.int (((p3.toUInt32 >>> ((2 : Int32) &&& 31).toUInt32).toInt32) &&& (3 : Int32)))])) (fun _ kt_ => XS.iand X0.here hx rfl (hb hby at_13) rfl kt_) ?_
  refine own_by (T' := s₁) (g' := (mkF m 15 #[.val (.int p0), .val (.int p1), .val (.int p2), .val (.int p3), .val (.int (((p3 &&& (3 : Int32)) % (3 : Int32)) + (1 : Int32))), .unset, .unset, .unset, .unset, .unset, .unset, .unset, .unset, .unset, .unset, .unset, .unset, .unset] [(.int (3 : Int32)), (.int (((p3.toUInt32 >>> ((2 : Int32) &&& 31).toUInt32).toInt32) &&& (3 : Int32)))])) (fun _ kt_ => XS.iconst X0.here hx rfl (hb hby at_14) kt_) ?_
  refine own_by (T' := s₁) (g' := (mkF m 16 #[.val (.int p0), .val (.int p1), .val (.int p2), .val (.int p3), .val (.int (((p3 &&& (3 : Int32)) % (3 : Int32)) + (1 : Int32))), .unset, .unset, .unset, .unset, .unset, .unset, .unset, .unset, .unset, .unset, .unset, .unset, .unset] [(.int ((((p3.toUInt32 >>> ((2 : Int32) &&& 31).toUInt32).toInt32) &&& (3 : Int32)) % (3 : Int32)))])) (fun _ kt_ => iremM X0 hx rfl (hb hby at_15) rfl (by decide) kt_) ?_
  refine own_by (T' := s₁) (g' := (mkF m 17 #[.val (.int p0), .val (.int p1), .val (.int p2), .val (.int p3), .val (.int (((p3 &&& (3 : Int32)) % (3 : Int32)) + (1 : Int32))), .unset, .unset, .unset, .unset, .unset, .unset, .unset, .unset, .unset, .unset, .unset, .unset, .unset] [(.int (1 : Int32)), (.int ((((p3.toUInt32 >>> ((2 : Int32) &&& 31).toUInt32).toInt32) &&& (3 : Int32)) % (3 : Int32)))])) (fun _ kt_ => XS.iconst X0.here hx rfl (hb hby at_16) kt_) ?_
  refine own_by (T' := s₁) (g' := (mkF m 18 #[.val (.int p0), .val (.int p1), .val (.int p2), .val (.int p3), .val (.int (((p3 &&& (3 : Int32)) % (3 : Int32)) + (1 : Int32))), .unset, .unset, .unset, .unset, .unset, .unset, .unset, .unset, .unset, .unset, .unset, .unset, .unset] [(.int (((((p3.toUInt32 >>> ((2 : Int32) &&& 31).toUInt32).toInt32) &&& (3 : Int32)) % (3 : Int32)) + (1 : Int32)))])) (fun _ kt_ => XS.iadd X0.here hx rfl (hb hby at_17) rfl kt_) ?_
  refine own_by (T' := s₁) (g' := (mkF m 20 #[.val (.int p0), .val (.int p1), .val (.int p2), .val (.int p3), .val (.int (((p3 &&& (3 : Int32)) % (3 : Int32)) + (1 : Int32))), .val (.int (((((p3.toUInt32 >>> ((2 : Int32) &&& 31).toUInt32).toInt32) &&& (3 : Int32)) % (3 : Int32)) + (1 : Int32))), .unset, .unset, .unset, .unset, .unset, .unset, .unset, .unset, .unset, .unset, .unset, .unset] [])) (fun _ kt_ => XS.istore X0.here hx rfl (hb hby at_18) rfl (l' := #[.val (.int p0), .val (.int p1), .val (.int p2), .val (.int p3), .val (.int (((p3 &&& (3 : Int32)) % (3 : Int32)) + (1 : Int32))), .val (.int (((((p3.toUInt32 >>> ((2 : Int32) &&& 31).toUInt32).toInt32) &&& (3 : Int32)) % (3 : Int32)) + (1 : Int32))), .unset, .unset, .unset, .unset, .unset, .unset, .unset, .unset, .unset, .unset, .unset, .unset]) rfl kt_) ?_
  refine own_by (T' := s₁) (g' := (mkF m 21 #[.val (.int p0), .val (.int p1), .val (.int p2), .val (.int p3), .val (.int (((p3 &&& (3 : Int32)) % (3 : Int32)) + (1 : Int32))), .val (.int (((((p3.toUInt32 >>> ((2 : Int32) &&& 31).toUInt32).toInt32) &&& (3 : Int32)) % (3 : Int32)) + (1 : Int32))), .unset, .unset, .unset, .unset, .unset, .unset, .unset, .unset, .unset, .unset, .unset, .unset] [(.int p3)])) (fun _ kt_ => XS.iloadN X0.here hx rfl (hb hby at_20) rfl kt_) ?_
  refine own_by (T' := s₁) (g' := (mkF m 22 #[.val (.int p0), .val (.int p1), .val (.int p2), .val (.int p3), .val (.int (((p3 &&& (3 : Int32)) % (3 : Int32)) + (1 : Int32))), .val (.int (((((p3.toUInt32 >>> ((2 : Int32) &&& 31).toUInt32).toInt32) &&& (3 : Int32)) % (3 : Int32)) + (1 : Int32))), .unset, .unset, .unset, .unset, .unset, .unset, .unset, .unset, .unset, .unset, .unset, .unset] [(.int (4 : Int32)), (.int p3)])) (fun _ kt_ => XS.iconst X0.here hx rfl (hb hby at_21) kt_) ?_
  refine own_by (T' := s₁) (g' := (mkF m 23 #[.val (.int p0), .val (.int p1), .val (.int p2), .val (.int p3), .val (.int (((p3 &&& (3 : Int32)) % (3 : Int32)) + (1 : Int32))), .val (.int (((((p3.toUInt32 >>> ((2 : Int32) &&& 31).toUInt32).toInt32) &&& (3 : Int32)) % (3 : Int32)) + (1 : Int32))), .unset, .unset, .unset, .unset, .unset, .unset, .unset, .unset, .unset, .unset, .unset, .unset] [(.int ((p3.toUInt32 >>> ((4 : Int32) &&& 31).toUInt32).toInt32))])) (fun _ kt_ => XS.iushr X0.here hx rfl (hb hby at_22) rfl kt_) ?_
  refine own_by (T' := s₁) (g' := (mkF m 24 #[.val (.int p0), .val (.int p1), .val (.int p2), .val (.int p3), .val (.int (((p3 &&& (3 : Int32)) % (3 : Int32)) + (1 : Int32))), .val (.int (((((p3.toUInt32 >>> ((2 : Int32) &&& 31).toUInt32).toInt32) &&& (3 : Int32)) % (3 : Int32)) + (1 : Int32))), .unset, .unset, .unset, .unset, .unset, .unset, .unset, .unset, .unset, .unset, .unset, .unset] [(.int (3 : Int32)), (.int ((p3.toUInt32 >>> ((4 : Int32) &&& 31).toUInt32).toInt32))])) (fun _ kt_ => XS.iconst X0.here hx rfl (hb hby at_23) kt_) ?_
  refine own_by (T' := s₁) (g' := (mkF m 25 #[.val (.int p0), .val (.int p1), .val (.int p2), .val (.int p3), .val (.int (((p3 &&& (3 : Int32)) % (3 : Int32)) + (1 : Int32))), .val (.int (((((p3.toUInt32 >>> ((2 : Int32) &&& 31).toUInt32).toInt32) &&& (3 : Int32)) % (3 : Int32)) + (1 : Int32))), .unset, .unset, .unset, .unset, .unset, .unset, .unset, .unset, .unset, .unset, .unset, .unset] [(.int (((p3.toUInt32 >>> ((4 : Int32) &&& 31).toUInt32).toInt32) &&& (3 : Int32)))])) (fun _ kt_ => XS.iand X0.here hx rfl (hb hby at_24) rfl kt_) ?_
  refine own_by (T' := s₁) (g' := (mkF m 27 #[.val (.int p0), .val (.int p1), .val (.int p2), .val (.int p3), .val (.int (((p3 &&& (3 : Int32)) % (3 : Int32)) + (1 : Int32))), .val (.int (((((p3.toUInt32 >>> ((2 : Int32) &&& 31).toUInt32).toInt32) &&& (3 : Int32)) % (3 : Int32)) + (1 : Int32))), .val (.int (((p3.toUInt32 >>> ((4 : Int32) &&& 31).toUInt32).toInt32) &&& (3 : Int32))), .unset, .unset, .unset, .unset, .unset, .unset, .unset, .unset, .unset, .unset, .unset] [])) (fun _ kt_ => XS.istore X0.here hx rfl (hb hby at_25) rfl (l' := #[.val (.int p0), .val (.int p1), .val (.int p2), .val (.int p3), .val (.int (((p3 &&& (3 : Int32)) % (3 : Int32)) + (1 : Int32))), .val (.int (((((p3.toUInt32 >>> ((2 : Int32) &&& 31).toUInt32).toInt32) &&& (3 : Int32)) % (3 : Int32)) + (1 : Int32))), .val (.int (((p3.toUInt32 >>> ((4 : Int32) &&& 31).toUInt32).toInt32) &&& (3 : Int32))), .unset, .unset, .unset, .unset, .unset, .unset, .unset, .unset, .unset, .unset, .unset]) rfl kt_) ?_
  refine own_by (T' := s₁) (g' := (mkF m 28 #[.val (.int p0), .val (.int p1), .val (.int p2), .val (.int p3), .val (.int (((p3 &&& (3 : Int32)) % (3 : Int32)) + (1 : Int32))), .val (.int (((((p3.toUInt32 >>> ((2 : Int32) &&& 31).toUInt32).toInt32) &&& (3 : Int32)) % (3 : Int32)) + (1 : Int32))), .val (.int (((p3.toUInt32 >>> ((4 : Int32) &&& 31).toUInt32).toInt32) &&& (3 : Int32))), .unset, .unset, .unset, .unset, .unset, .unset, .unset, .unset, .unset, .unset, .unset] [(.int p0)])) (fun _ kt_ => XS.iloadN X0.here hx rfl (hb hby at_27) rfl kt_) ?_
  refine own_by (T' := s₁) (g' := (mkF m 31 #[.val (.int p0), .val (.int p1), .val (.int p2), .val (.int p3), .val (.int (((p3 &&& (3 : Int32)) % (3 : Int32)) + (1 : Int32))), .val (.int (((((p3.toUInt32 >>> ((2 : Int32) &&& 31).toUInt32).toInt32) &&& (3 : Int32)) % (3 : Int32)) + (1 : Int32))), .val (.int (((p3.toUInt32 >>> ((4 : Int32) &&& 31).toUInt32).toInt32) &&& (3 : Int32))), .unset, .unset, .unset, .unset, .unset, .unset, .unset, .unset, .unset, .unset, .unset] [(.int (255 : Int32)), (.int p0)])) (fun _ kt_ => XS.sipush X0.here hx rfl (hb hby at_28) kt_) ?_
  refine own_by (T' := s₁) (g' := (mkF m 32 #[.val (.int p0), .val (.int p1), .val (.int p2), .val (.int p3), .val (.int (((p3 &&& (3 : Int32)) % (3 : Int32)) + (1 : Int32))), .val (.int (((((p3.toUInt32 >>> ((2 : Int32) &&& 31).toUInt32).toInt32) &&& (3 : Int32)) % (3 : Int32)) + (1 : Int32))), .val (.int (((p3.toUInt32 >>> ((4 : Int32) &&& 31).toUInt32).toInt32) &&& (3 : Int32))), .unset, .unset, .unset, .unset, .unset, .unset, .unset, .unset, .unset, .unset, .unset] [(.int (p0 &&& (255 : Int32)))])) (fun _ kt_ => XS.iand X0.here hx rfl (hb hby at_31) rfl kt_) ?_
  refine own_by (T' := s₁) (g' := (mkF m 33 #[.val (.int p0), .val (.int p1), .val (.int p2), .val (.int p3), .val (.int (((p3 &&& (3 : Int32)) % (3 : Int32)) + (1 : Int32))), .val (.int (((((p3.toUInt32 >>> ((2 : Int32) &&& 31).toUInt32).toInt32) &&& (3 : Int32)) % (3 : Int32)) + (1 : Int32))), .val (.int (((p3.toUInt32 >>> ((4 : Int32) &&& 31).toUInt32).toInt32) &&& (3 : Int32))), .unset, .unset, .unset, .unset, .unset, .unset, .unset, .unset, .unset, .unset, .unset] [(.int (p0 &&& (255 : Int32)).toUInt32.toUInt16.toUInt32.toInt32)])) (fun _ kt_ => XS.i2c X0.here hx rfl (hb hby at_32) rfl kt_) ?_
  refine own_by (T' := s₁) (g' := (mkF m 35 #[.val (.int p0), .val (.int p1), .val (.int p2), .val (.int p3), .val (.int (((p3 &&& (3 : Int32)) % (3 : Int32)) + (1 : Int32))), .val (.int (((((p3.toUInt32 >>> ((2 : Int32) &&& 31).toUInt32).toInt32) &&& (3 : Int32)) % (3 : Int32)) + (1 : Int32))), .val (.int (((p3.toUInt32 >>> ((4 : Int32) &&& 31).toUInt32).toInt32) &&& (3 : Int32))), .val (.int (p0 &&& (255 : Int32)).toUInt32.toUInt16.toUInt32.toInt32), .unset, .unset, .unset, .unset, .unset, .unset, .unset, .unset, .unset, .unset] [])) (fun _ kt_ => XS.istore X0.here hx rfl (hb hby at_33) rfl (l' := #[.val (.int p0), .val (.int p1), .val (.int p2), .val (.int p3), .val (.int (((p3 &&& (3 : Int32)) % (3 : Int32)) + (1 : Int32))), .val (.int (((((p3.toUInt32 >>> ((2 : Int32) &&& 31).toUInt32).toInt32) &&& (3 : Int32)) % (3 : Int32)) + (1 : Int32))), .val (.int (((p3.toUInt32 >>> ((4 : Int32) &&& 31).toUInt32).toInt32) &&& (3 : Int32))), .val (.int (p0 &&& (255 : Int32)).toUInt32.toUInt16.toUInt32.toInt32), .unset, .unset, .unset, .unset, .unset, .unset, .unset, .unset, .unset, .unset]) rfl kt_) ?_
  refine own_by (T' := s₁) (g' := (mkF m 36 #[.val (.int p0), .val (.int p1), .val (.int p2), .val (.int p3), .val (.int (((p3 &&& (3 : Int32)) % (3 : Int32)) + (1 : Int32))), .val (.int (((((p3.toUInt32 >>> ((2 : Int32) &&& 31).toUInt32).toInt32) &&& (3 : Int32)) % (3 : Int32)) + (1 : Int32))), .val (.int (((p3.toUInt32 >>> ((4 : Int32) &&& 31).toUInt32).toInt32) &&& (3 : Int32))), .val (.int (p0 &&& (255 : Int32)).toUInt32.toUInt16.toUInt32.toInt32), .unset, .unset, .unset, .unset, .unset, .unset, .unset, .unset, .unset, .unset] [(.int p1)])) (fun _ kt_ => XS.iloadN X0.here hx rfl (hb hby at_35) rfl kt_) ?_
  refine own_by (T' := s₁) (g' := (mkF m 39 #[.val (.int p0), .val (.int p1), .val (.int p2), .val (.int p3), .val (.int (((p3 &&& (3 : Int32)) % (3 : Int32)) + (1 : Int32))), .val (.int (((((p3.toUInt32 >>> ((2 : Int32) &&& 31).toUInt32).toInt32) &&& (3 : Int32)) % (3 : Int32)) + (1 : Int32))), .val (.int (((p3.toUInt32 >>> ((4 : Int32) &&& 31).toUInt32).toInt32) &&& (3 : Int32))), .val (.int (p0 &&& (255 : Int32)).toUInt32.toUInt16.toUInt32.toInt32), .unset, .unset, .unset, .unset, .unset, .unset, .unset, .unset, .unset, .unset] [(.int (255 : Int32)), (.int p1)])) (fun _ kt_ => XS.sipush X0.here hx rfl (hb hby at_36) kt_) ?_
  refine own_by (T' := s₁) (g' := (mkF m 40 #[.val (.int p0), .val (.int p1), .val (.int p2), .val (.int p3), .val (.int (((p3 &&& (3 : Int32)) % (3 : Int32)) + (1 : Int32))), .val (.int (((((p3.toUInt32 >>> ((2 : Int32) &&& 31).toUInt32).toInt32) &&& (3 : Int32)) % (3 : Int32)) + (1 : Int32))), .val (.int (((p3.toUInt32 >>> ((4 : Int32) &&& 31).toUInt32).toInt32) &&& (3 : Int32))), .val (.int (p0 &&& (255 : Int32)).toUInt32.toUInt16.toUInt32.toInt32), .unset, .unset, .unset, .unset, .unset, .unset, .unset, .unset, .unset, .unset] [(.int (p1 &&& (255 : Int32)))])) (fun _ kt_ => XS.iand X0.here hx rfl (hb hby at_39) rfl kt_) ?_
  refine own_by (T' := s₁) (g' := (mkF m 41 #[.val (.int p0), .val (.int p1), .val (.int p2), .val (.int p3), .val (.int (((p3 &&& (3 : Int32)) % (3 : Int32)) + (1 : Int32))), .val (.int (((((p3.toUInt32 >>> ((2 : Int32) &&& 31).toUInt32).toInt32) &&& (3 : Int32)) % (3 : Int32)) + (1 : Int32))), .val (.int (((p3.toUInt32 >>> ((4 : Int32) &&& 31).toUInt32).toInt32) &&& (3 : Int32))), .val (.int (p0 &&& (255 : Int32)).toUInt32.toUInt16.toUInt32.toInt32), .unset, .unset, .unset, .unset, .unset, .unset, .unset, .unset, .unset, .unset] [(.int (p1 &&& (255 : Int32)).toUInt32.toUInt16.toUInt32.toInt32)])) (fun _ kt_ => XS.i2c X0.here hx rfl (hb hby at_40) rfl kt_) ?_
  refine own_by (T' := s₁) (g' := (mkF m 43 #[.val (.int p0), .val (.int p1), .val (.int p2), .val (.int p3), .val (.int (((p3 &&& (3 : Int32)) % (3 : Int32)) + (1 : Int32))), .val (.int (((((p3.toUInt32 >>> ((2 : Int32) &&& 31).toUInt32).toInt32) &&& (3 : Int32)) % (3 : Int32)) + (1 : Int32))), .val (.int (((p3.toUInt32 >>> ((4 : Int32) &&& 31).toUInt32).toInt32) &&& (3 : Int32))), .val (.int (p0 &&& (255 : Int32)).toUInt32.toUInt16.toUInt32.toInt32), .val (.int (p1 &&& (255 : Int32)).toUInt32.toUInt16.toUInt32.toInt32), .unset, .unset, .unset, .unset, .unset, .unset, .unset, .unset, .unset] [])) (fun _ kt_ => XS.istore X0.here hx rfl (hb hby at_41) rfl (l' := #[.val (.int p0), .val (.int p1), .val (.int p2), .val (.int p3), .val (.int (((p3 &&& (3 : Int32)) % (3 : Int32)) + (1 : Int32))), .val (.int (((((p3.toUInt32 >>> ((2 : Int32) &&& 31).toUInt32).toInt32) &&& (3 : Int32)) % (3 : Int32)) + (1 : Int32))), .val (.int (((p3.toUInt32 >>> ((4 : Int32) &&& 31).toUInt32).toInt32) &&& (3 : Int32))), .val (.int (p0 &&& (255 : Int32)).toUInt32.toUInt16.toUInt32.toInt32), .val (.int (p1 &&& (255 : Int32)).toUInt32.toUInt16.toUInt32.toInt32), .unset, .unset, .unset, .unset, .unset, .unset, .unset, .unset, .unset]) rfl kt_) ?_
  refine own_by (T' := s₁) (g' := (mkF m 44 #[.val (.int p0), .val (.int p1), .val (.int p2), .val (.int p3), .val (.int (((p3 &&& (3 : Int32)) % (3 : Int32)) + (1 : Int32))), .val (.int (((((p3.toUInt32 >>> ((2 : Int32) &&& 31).toUInt32).toInt32) &&& (3 : Int32)) % (3 : Int32)) + (1 : Int32))), .val (.int (((p3.toUInt32 >>> ((4 : Int32) &&& 31).toUInt32).toInt32) &&& (3 : Int32))), .val (.int (p0 &&& (255 : Int32)).toUInt32.toUInt16.toUInt32.toInt32), .val (.int (p1 &&& (255 : Int32)).toUInt32.toUInt16.toUInt32.toInt32), .unset, .unset, .unset, .unset, .unset, .unset, .unset, .unset, .unset] [(.int p2)])) (fun _ kt_ => XS.iloadN X0.here hx rfl (hb hby at_43) rfl kt_) ?_
  refine own_by (T' := s₁) (g' := (mkF m 47 #[.val (.int p0), .val (.int p1), .val (.int p2), .val (.int p3), .val (.int (((p3 &&& (3 : Int32)) % (3 : Int32)) + (1 : Int32))), .val (.int (((((p3.toUInt32 >>> ((2 : Int32) &&& 31).toUInt32).toInt32) &&& (3 : Int32)) % (3 : Int32)) + (1 : Int32))), .val (.int (((p3.toUInt32 >>> ((4 : Int32) &&& 31).toUInt32).toInt32) &&& (3 : Int32))), .val (.int (p0 &&& (255 : Int32)).toUInt32.toUInt16.toUInt32.toInt32), .val (.int (p1 &&& (255 : Int32)).toUInt32.toUInt16.toUInt32.toInt32), .unset, .unset, .unset, .unset, .unset, .unset, .unset, .unset, .unset] [(.int (255 : Int32)), (.int p2)])) (fun _ kt_ => XS.sipush X0.here hx rfl (hb hby at_44) kt_) ?_
  refine own_by (T' := s₁) (g' := (mkF m 48 #[.val (.int p0), .val (.int p1), .val (.int p2), .val (.int p3), .val (.int (((p3 &&& (3 : Int32)) % (3 : Int32)) + (1 : Int32))), .val (.int (((((p3.toUInt32 >>> ((2 : Int32) &&& 31).toUInt32).toInt32) &&& (3 : Int32)) % (3 : Int32)) + (1 : Int32))), .val (.int (((p3.toUInt32 >>> ((4 : Int32) &&& 31).toUInt32).toInt32) &&& (3 : Int32))), .val (.int (p0 &&& (255 : Int32)).toUInt32.toUInt16.toUInt32.toInt32), .val (.int (p1 &&& (255 : Int32)).toUInt32.toUInt16.toUInt32.toInt32), .unset, .unset, .unset, .unset, .unset, .unset, .unset, .unset, .unset] [(.int (p2 &&& (255 : Int32)))])) (fun _ kt_ => XS.iand X0.here hx rfl (hb hby at_47) rfl kt_) ?_
  refine own_by (T' := s₁) (g' := (mkF m 49 #[.val (.int p0), .val (.int p1), .val (.int p2), .val (.int p3), .val (.int (((p3 &&& (3 : Int32)) % (3 : Int32)) + (1 : Int32))), .val (.int (((((p3.toUInt32 >>> ((2 : Int32) &&& 31).toUInt32).toInt32) &&& (3 : Int32)) % (3 : Int32)) + (1 : Int32))), .val (.int (((p3.toUInt32 >>> ((4 : Int32) &&& 31).toUInt32).toInt32) &&& (3 : Int32))), .val (.int (p0 &&& (255 : Int32)).toUInt32.toUInt16.toUInt32.toInt32), .val (.int (p1 &&& (255 : Int32)).toUInt32.toUInt16.toUInt32.toInt32), .unset, .unset, .unset, .unset, .unset, .unset, .unset, .unset, .unset] [(.int (p2 &&& (255 : Int32)).toUInt32.toUInt16.toUInt32.toInt32)])) (fun _ kt_ => XS.i2c X0.here hx rfl (hb hby at_48) rfl kt_) ?_
  refine own_by (T' := s₁) (g' := (mkF m 51 #[.val (.int p0), .val (.int p1), .val (.int p2), .val (.int p3), .val (.int (((p3 &&& (3 : Int32)) % (3 : Int32)) + (1 : Int32))), .val (.int (((((p3.toUInt32 >>> ((2 : Int32) &&& 31).toUInt32).toInt32) &&& (3 : Int32)) % (3 : Int32)) + (1 : Int32))), .val (.int (((p3.toUInt32 >>> ((4 : Int32) &&& 31).toUInt32).toInt32) &&& (3 : Int32))), .val (.int (p0 &&& (255 : Int32)).toUInt32.toUInt16.toUInt32.toInt32), .val (.int (p1 &&& (255 : Int32)).toUInt32.toUInt16.toUInt32.toInt32), .val (.int (p2 &&& (255 : Int32)).toUInt32.toUInt16.toUInt32.toInt32), .unset, .unset, .unset, .unset, .unset, .unset, .unset, .unset] [])) (fun _ kt_ => XS.istore X0.here hx rfl (hb hby at_49) rfl (l' := #[.val (.int p0), .val (.int p1), .val (.int p2), .val (.int p3), .val (.int (((p3 &&& (3 : Int32)) % (3 : Int32)) + (1 : Int32))), .val (.int (((((p3.toUInt32 >>> ((2 : Int32) &&& 31).toUInt32).toInt32) &&& (3 : Int32)) % (3 : Int32)) + (1 : Int32))), .val (.int (((p3.toUInt32 >>> ((4 : Int32) &&& 31).toUInt32).toInt32) &&& (3 : Int32))), .val (.int (p0 &&& (255 : Int32)).toUInt32.toUInt16.toUInt32.toInt32), .val (.int (p1 &&& (255 : Int32)).toUInt32.toUInt16.toUInt32.toInt32), .val (.int (p2 &&& (255 : Int32)).toUInt32.toUInt16.toUInt32.toInt32), .unset, .unset, .unset, .unset, .unset, .unset, .unset, .unset]) rfl kt_) ?_
  refine own_by (T' := s₁) (g' := (mkF m 52 #[.val (.int p0), .val (.int p1), .val (.int p2), .val (.int p3), .val (.int (((p3 &&& (3 : Int32)) % (3 : Int32)) + (1 : Int32))), .val (.int (((((p3.toUInt32 >>> ((2 : Int32) &&& 31).toUInt32).toInt32) &&& (3 : Int32)) % (3 : Int32)) + (1 : Int32))), .val (.int (((p3.toUInt32 >>> ((4 : Int32) &&& 31).toUInt32).toInt32) &&& (3 : Int32))), .val (.int (p0 &&& (255 : Int32)).toUInt32.toUInt16.toUInt32.toInt32), .val (.int (p1 &&& (255 : Int32)).toUInt32.toUInt16.toUInt32.toInt32), .val (.int (p2 &&& (255 : Int32)).toUInt32.toUInt16.toUInt32.toInt32), .unset, .unset, .unset, .unset, .unset, .unset, .unset, .unset] [(.int p0)])) (fun _ kt_ => XS.iloadN X0.here hx rfl (hb hby at_51) rfl kt_) ?_
  refine own_by (T' := s₁) (g' := (mkF m 53 #[.val (.int p0), .val (.int p1), .val (.int p2), .val (.int p3), .val (.int (((p3 &&& (3 : Int32)) % (3 : Int32)) + (1 : Int32))), .val (.int (((((p3.toUInt32 >>> ((2 : Int32) &&& 31).toUInt32).toInt32) &&& (3 : Int32)) % (3 : Int32)) + (1 : Int32))), .val (.int (((p3.toUInt32 >>> ((4 : Int32) &&& 31).toUInt32).toInt32) &&& (3 : Int32))), .val (.int (p0 &&& (255 : Int32)).toUInt32.toUInt16.toUInt32.toInt32), .val (.int (p1 &&& (255 : Int32)).toUInt32.toUInt16.toUInt32.toInt32), .val (.int (p2 &&& (255 : Int32)).toUInt32.toUInt16.toUInt32.toInt32), .unset, .unset, .unset, .unset, .unset, .unset, .unset, .unset] [(.int p3), (.int p0)])) (fun _ kt_ => XS.iloadN X0.here hx rfl (hb hby at_52) rfl kt_) ?_
  refine own_by (T' := s₁) (g' := (mkF m 55 #[.val (.int p0), .val (.int p1), .val (.int p2), .val (.int p3), .val (.int (((p3 &&& (3 : Int32)) % (3 : Int32)) + (1 : Int32))), .val (.int (((((p3.toUInt32 >>> ((2 : Int32) &&& 31).toUInt32).toInt32) &&& (3 : Int32)) % (3 : Int32)) + (1 : Int32))), .val (.int (((p3.toUInt32 >>> ((4 : Int32) &&& 31).toUInt32).toInt32) &&& (3 : Int32))), .val (.int (p0 &&& (255 : Int32)).toUInt32.toUInt16.toUInt32.toInt32), .val (.int (p1 &&& (255 : Int32)).toUInt32.toUInt16.toUInt32.toInt32), .val (.int (p2 &&& (255 : Int32)).toUInt32.toUInt16.toUInt32.toInt32), .unset, .unset, .unset, .unset, .unset, .unset, .unset, .unset] [(.int (8 : Int32)), (.int p3), (.int p0)])) (fun _ kt_ => XS.bipush X0.here hx rfl (hb hby at_53) kt_) ?_
  refine own_by (T' := s₁) (g' := (mkF m 56 #[.val (.int p0), .val (.int p1), .val (.int p2), .val (.int p3), .val (.int (((p3 &&& (3 : Int32)) % (3 : Int32)) + (1 : Int32))), .val (.int (((((p3.toUInt32 >>> ((2 : Int32) &&& 31).toUInt32).toInt32) &&& (3 : Int32)) % (3 : Int32)) + (1 : Int32))), .val (.int (((p3.toUInt32 >>> ((4 : Int32) &&& 31).toUInt32).toInt32) &&& (3 : Int32))), .val (.int (p0 &&& (255 : Int32)).toUInt32.toUInt16.toUInt32.toInt32), .val (.int (p1 &&& (255 : Int32)).toUInt32.toUInt16.toUInt32.toInt32), .val (.int (p2 &&& (255 : Int32)).toUInt32.toUInt16.toUInt32.toInt32), .unset, .unset, .unset, .unset, .unset, .unset, .unset, .unset] [(.int ((p3.toUInt32 >>> ((8 : Int32) &&& 31).toUInt32).toInt32)), (.int p0)])) (fun _ kt_ => XS.iushr X0.here hx rfl (hb hby at_55) rfl kt_) ?_
  refine own_by (T' := s₁) (g' := (mkF m 59 #[.val (.int p0), .val (.int p1), .val (.int p2), .val (.int p3), .val (.int (((p3 &&& (3 : Int32)) % (3 : Int32)) + (1 : Int32))), .val (.int (((((p3.toUInt32 >>> ((2 : Int32) &&& 31).toUInt32).toInt32) &&& (3 : Int32)) % (3 : Int32)) + (1 : Int32))), .val (.int (((p3.toUInt32 >>> ((4 : Int32) &&& 31).toUInt32).toInt32) &&& (3 : Int32))), .val (.int (p0 &&& (255 : Int32)).toUInt32.toUInt16.toUInt32.toInt32), .val (.int (p1 &&& (255 : Int32)).toUInt32.toUInt16.toUInt32.toInt32), .val (.int (p2 &&& (255 : Int32)).toUInt32.toUInt16.toUInt32.toInt32), .unset, .unset, .unset, .unset, .unset, .unset, .unset, .unset] [(.int (255 : Int32)), (.int ((p3.toUInt32 >>> ((8 : Int32) &&& 31).toUInt32).toInt32)), (.int p0)])) (fun _ kt_ => XS.sipush X0.here hx rfl (hb hby at_56) kt_) ?_
  refine own_by (T' := s₁) (g' := (mkF m 60 #[.val (.int p0), .val (.int p1), .val (.int p2), .val (.int p3), .val (.int (((p3 &&& (3 : Int32)) % (3 : Int32)) + (1 : Int32))), .val (.int (((((p3.toUInt32 >>> ((2 : Int32) &&& 31).toUInt32).toInt32) &&& (3 : Int32)) % (3 : Int32)) + (1 : Int32))), .val (.int (((p3.toUInt32 >>> ((4 : Int32) &&& 31).toUInt32).toInt32) &&& (3 : Int32))), .val (.int (p0 &&& (255 : Int32)).toUInt32.toUInt16.toUInt32.toInt32), .val (.int (p1 &&& (255 : Int32)).toUInt32.toUInt16.toUInt32.toInt32), .val (.int (p2 &&& (255 : Int32)).toUInt32.toUInt16.toUInt32.toInt32), .unset, .unset, .unset, .unset, .unset, .unset, .unset, .unset] [(.int (((p3.toUInt32 >>> ((8 : Int32) &&& 31).toUInt32).toInt32) &&& (255 : Int32))), (.int p0)])) (fun _ kt_ => XS.iand X0.here hx rfl (hb hby at_59) rfl kt_) ?_
  refine own_by (T' := s₁) (g' := (mkF m 61 #[.val (.int p0), .val (.int p1), .val (.int p2), .val (.int p3), .val (.int (((p3 &&& (3 : Int32)) % (3 : Int32)) + (1 : Int32))), .val (.int (((((p3.toUInt32 >>> ((2 : Int32) &&& 31).toUInt32).toInt32) &&& (3 : Int32)) % (3 : Int32)) + (1 : Int32))), .val (.int (((p3.toUInt32 >>> ((4 : Int32) &&& 31).toUInt32).toInt32) &&& (3 : Int32))), .val (.int (p0 &&& (255 : Int32)).toUInt32.toUInt16.toUInt32.toInt32), .val (.int (p1 &&& (255 : Int32)).toUInt32.toUInt16.toUInt32.toInt32), .val (.int (p2 &&& (255 : Int32)).toUInt32.toUInt16.toUInt32.toInt32), .unset, .unset, .unset, .unset, .unset, .unset, .unset, .unset] [(.int (p0 + (((p3.toUInt32 >>> ((8 : Int32) &&& 31).toUInt32).toInt32) &&& (255 : Int32))))])) (fun _ kt_ => XS.iadd X0.here hx rfl (hb hby at_60) rfl kt_) ?_
  refine own_by (T' := s₁) (g' := (mkF m 64 #[.val (.int p0), .val (.int p1), .val (.int p2), .val (.int p3), .val (.int (((p3 &&& (3 : Int32)) % (3 : Int32)) + (1 : Int32))), .val (.int (((((p3.toUInt32 >>> ((2 : Int32) &&& 31).toUInt32).toInt32) &&& (3 : Int32)) % (3 : Int32)) + (1 : Int32))), .val (.int (((p3.toUInt32 >>> ((4 : Int32) &&& 31).toUInt32).toInt32) &&& (3 : Int32))), .val (.int (p0 &&& (255 : Int32)).toUInt32.toUInt16.toUInt32.toInt32), .val (.int (p1 &&& (255 : Int32)).toUInt32.toUInt16.toUInt32.toInt32), .val (.int (p2 &&& (255 : Int32)).toUInt32.toUInt16.toUInt32.toInt32), .unset, .unset, .unset, .unset, .unset, .unset, .unset, .unset] [(.int (255 : Int32)), (.int (p0 + (((p3.toUInt32 >>> ((8 : Int32) &&& 31).toUInt32).toInt32) &&& (255 : Int32))))])) (fun _ kt_ => XS.sipush X0.here hx rfl (hb hby at_61) kt_) ?_
  refine own_by (T' := s₁) (g' := (mkF m 65 #[.val (.int p0), .val (.int p1), .val (.int p2), .val (.int p3), .val (.int (((p3 &&& (3 : Int32)) % (3 : Int32)) + (1 : Int32))), .val (.int (((((p3.toUInt32 >>> ((2 : Int32) &&& 31).toUInt32).toInt32) &&& (3 : Int32)) % (3 : Int32)) + (1 : Int32))), .val (.int (((p3.toUInt32 >>> ((4 : Int32) &&& 31).toUInt32).toInt32) &&& (3 : Int32))), .val (.int (p0 &&& (255 : Int32)).toUInt32.toUInt16.toUInt32.toInt32), .val (.int (p1 &&& (255 : Int32)).toUInt32.toUInt16.toUInt32.toInt32), .val (.int (p2 &&& (255 : Int32)).toUInt32.toUInt16.toUInt32.toInt32), .unset, .unset, .unset, .unset, .unset, .unset, .unset, .unset] [(.int ((p0 + (((p3.toUInt32 >>> ((8 : Int32) &&& 31).toUInt32).toInt32) &&& (255 : Int32))) &&& (255 : Int32)))])) (fun _ kt_ => XS.iand X0.here hx rfl (hb hby at_64) rfl kt_) ?_
  refine own_by (T' := s₁) (g' := (mkF m 66 #[.val (.int p0), .val (.int p1), .val (.int p2), .val (.int p3), .val (.int (((p3 &&& (3 : Int32)) % (3 : Int32)) + (1 : Int32))), .val (.int (((((p3.toUInt32 >>> ((2 : Int32) &&& 31).toUInt32).toInt32) &&& (3 : Int32)) % (3 : Int32)) + (1 : Int32))), .val (.int (((p3.toUInt32 >>> ((4 : Int32) &&& 31).toUInt32).toInt32) &&& (3 : Int32))), .val (.int (p0 &&& (255 : Int32)).toUInt32.toUInt16.toUInt32.toInt32), .val (.int (p1 &&& (255 : Int32)).toUInt32.toUInt16.toUInt32.toInt32), .val (.int (p2 &&& (255 : Int32)).toUInt32.toUInt16.toUInt32.toInt32), .unset, .unset, .unset, .unset, .unset, .unset, .unset, .unset] [(.int ((p0 + (((p3.toUInt32 >>> ((8 : Int32) &&& 31).toUInt32).toInt32) &&& (255 : Int32))) &&& (255 : Int32)).toUInt32.toUInt16.toUInt32.toInt32)])) (fun _ kt_ => XS.i2c X0.here hx rfl (hb hby at_65) rfl kt_) ?_
  refine own_by (T' := s₁) (g' := (mkF m 68 #[.val (.int p0), .val (.int p1), .val (.int p2), .val (.int p3), .val (.int (((p3 &&& (3 : Int32)) % (3 : Int32)) + (1 : Int32))), .val (.int (((((p3.toUInt32 >>> ((2 : Int32) &&& 31).toUInt32).toInt32) &&& (3 : Int32)) % (3 : Int32)) + (1 : Int32))), .val (.int (((p3.toUInt32 >>> ((4 : Int32) &&& 31).toUInt32).toInt32) &&& (3 : Int32))), .val (.int (p0 &&& (255 : Int32)).toUInt32.toUInt16.toUInt32.toInt32), .val (.int (p1 &&& (255 : Int32)).toUInt32.toUInt16.toUInt32.toInt32), .val (.int (p2 &&& (255 : Int32)).toUInt32.toUInt16.toUInt32.toInt32), .val (.int ((p0 + (((p3.toUInt32 >>> ((8 : Int32) &&& 31).toUInt32).toInt32) &&& (255 : Int32))) &&& (255 : Int32)).toUInt32.toUInt16.toUInt32.toInt32), .unset, .unset, .unset, .unset, .unset, .unset, .unset] [])) (fun _ kt_ => XS.istore X0.here hx rfl (hb hby at_66) rfl (l' := #[.val (.int p0), .val (.int p1), .val (.int p2), .val (.int p3), .val (.int (((p3 &&& (3 : Int32)) % (3 : Int32)) + (1 : Int32))), .val (.int (((((p3.toUInt32 >>> ((2 : Int32) &&& 31).toUInt32).toInt32) &&& (3 : Int32)) % (3 : Int32)) + (1 : Int32))), .val (.int (((p3.toUInt32 >>> ((4 : Int32) &&& 31).toUInt32).toInt32) &&& (3 : Int32))), .val (.int (p0 &&& (255 : Int32)).toUInt32.toUInt16.toUInt32.toInt32), .val (.int (p1 &&& (255 : Int32)).toUInt32.toUInt16.toUInt32.toInt32), .val (.int (p2 &&& (255 : Int32)).toUInt32.toUInt16.toUInt32.toInt32), .val (.int ((p0 + (((p3.toUInt32 >>> ((8 : Int32) &&& 31).toUInt32).toInt32) &&& (255 : Int32))) &&& (255 : Int32)).toUInt32.toUInt16.toUInt32.toInt32), .unset, .unset, .unset, .unset, .unset, .unset, .unset]) rfl kt_) ?_
  refine own_by (T' := s₁) (g' := (mkF m 69 #[.val (.int p0), .val (.int p1), .val (.int p2), .val (.int p3), .val (.int (((p3 &&& (3 : Int32)) % (3 : Int32)) + (1 : Int32))), .val (.int (((((p3.toUInt32 >>> ((2 : Int32) &&& 31).toUInt32).toInt32) &&& (3 : Int32)) % (3 : Int32)) + (1 : Int32))), .val (.int (((p3.toUInt32 >>> ((4 : Int32) &&& 31).toUInt32).toInt32) &&& (3 : Int32))), .val (.int (p0 &&& (255 : Int32)).toUInt32.toUInt16.toUInt32.toInt32), .val (.int (p1 &&& (255 : Int32)).toUInt32.toUInt16.toUInt32.toInt32), .val (.int (p2 &&& (255 : Int32)).toUInt32.toUInt16.toUInt32.toInt32), .val (.int ((p0 + (((p3.toUInt32 >>> ((8 : Int32) &&& 31).toUInt32).toInt32) &&& (255 : Int32))) &&& (255 : Int32)).toUInt32.toUInt16.toUInt32.toInt32), .unset, .unset, .unset, .unset, .unset, .unset, .unset] [(.int p1)])) (fun _ kt_ => XS.iloadN X0.here hx rfl (hb hby at_68) rfl kt_) ?_
  refine own_by (T' := s₁) (g' := (mkF m 70 #[.val (.int p0), .val (.int p1), .val (.int p2), .val (.int p3), .val (.int (((p3 &&& (3 : Int32)) % (3 : Int32)) + (1 : Int32))), .val (.int (((((p3.toUInt32 >>> ((2 : Int32) &&& 31).toUInt32).toInt32) &&& (3 : Int32)) % (3 : Int32)) + (1 : Int32))), .val (.int (((p3.toUInt32 >>> ((4 : Int32) &&& 31).toUInt32).toInt32) &&& (3 : Int32))), .val (.int (p0 &&& (255 : Int32)).toUInt32.toUInt16.toUInt32.toInt32), .val (.int (p1 &&& (255 : Int32)).toUInt32.toUInt16.toUInt32.toInt32), .val (.int (p2 &&& (255 : Int32)).toUInt32.toUInt16.toUInt32.toInt32), .val (.int ((p0 + (((p3.toUInt32 >>> ((8 : Int32) &&& 31).toUInt32).toInt32) &&& (255 : Int32))) &&& (255 : Int32)).toUInt32.toUInt16.toUInt32.toInt32), .unset, .unset, .unset, .unset, .unset, .unset, .unset] [(.int p3), (.int p1)])) (fun _ kt_ => XS.iloadN X0.here hx rfl (hb hby at_69) rfl kt_) ?_
  refine own_by (T' := s₁) (g' := (mkF m 72 #[.val (.int p0), .val (.int p1), .val (.int p2), .val (.int p3), .val (.int (((p3 &&& (3 : Int32)) % (3 : Int32)) + (1 : Int32))), .val (.int (((((p3.toUInt32 >>> ((2 : Int32) &&& 31).toUInt32).toInt32) &&& (3 : Int32)) % (3 : Int32)) + (1 : Int32))), .val (.int (((p3.toUInt32 >>> ((4 : Int32) &&& 31).toUInt32).toInt32) &&& (3 : Int32))), .val (.int (p0 &&& (255 : Int32)).toUInt32.toUInt16.toUInt32.toInt32), .val (.int (p1 &&& (255 : Int32)).toUInt32.toUInt16.toUInt32.toInt32), .val (.int (p2 &&& (255 : Int32)).toUInt32.toUInt16.toUInt32.toInt32), .val (.int ((p0 + (((p3.toUInt32 >>> ((8 : Int32) &&& 31).toUInt32).toInt32) &&& (255 : Int32))) &&& (255 : Int32)).toUInt32.toUInt16.toUInt32.toInt32), .unset, .unset, .unset, .unset, .unset, .unset, .unset] [(.int (16 : Int32)), (.int p3), (.int p1)])) (fun _ kt_ => XS.bipush X0.here hx rfl (hb hby at_70) kt_) ?_
  refine own_by (T' := s₁) (g' := (mkF m 73 #[.val (.int p0), .val (.int p1), .val (.int p2), .val (.int p3), .val (.int (((p3 &&& (3 : Int32)) % (3 : Int32)) + (1 : Int32))), .val (.int (((((p3.toUInt32 >>> ((2 : Int32) &&& 31).toUInt32).toInt32) &&& (3 : Int32)) % (3 : Int32)) + (1 : Int32))), .val (.int (((p3.toUInt32 >>> ((4 : Int32) &&& 31).toUInt32).toInt32) &&& (3 : Int32))), .val (.int (p0 &&& (255 : Int32)).toUInt32.toUInt16.toUInt32.toInt32), .val (.int (p1 &&& (255 : Int32)).toUInt32.toUInt16.toUInt32.toInt32), .val (.int (p2 &&& (255 : Int32)).toUInt32.toUInt16.toUInt32.toInt32), .val (.int ((p0 + (((p3.toUInt32 >>> ((8 : Int32) &&& 31).toUInt32).toInt32) &&& (255 : Int32))) &&& (255 : Int32)).toUInt32.toUInt16.toUInt32.toInt32), .unset, .unset, .unset, .unset, .unset, .unset, .unset] [(.int ((p3.toUInt32 >>> ((16 : Int32) &&& 31).toUInt32).toInt32)), (.int p1)])) (fun _ kt_ => XS.iushr X0.here hx rfl (hb hby at_72) rfl kt_) ?_
  refine own_by (T' := s₁) (g' := (mkF m 76 #[.val (.int p0), .val (.int p1), .val (.int p2), .val (.int p3), .val (.int (((p3 &&& (3 : Int32)) % (3 : Int32)) + (1 : Int32))), .val (.int (((((p3.toUInt32 >>> ((2 : Int32) &&& 31).toUInt32).toInt32) &&& (3 : Int32)) % (3 : Int32)) + (1 : Int32))), .val (.int (((p3.toUInt32 >>> ((4 : Int32) &&& 31).toUInt32).toInt32) &&& (3 : Int32))), .val (.int (p0 &&& (255 : Int32)).toUInt32.toUInt16.toUInt32.toInt32), .val (.int (p1 &&& (255 : Int32)).toUInt32.toUInt16.toUInt32.toInt32), .val (.int (p2 &&& (255 : Int32)).toUInt32.toUInt16.toUInt32.toInt32), .val (.int ((p0 + (((p3.toUInt32 >>> ((8 : Int32) &&& 31).toUInt32).toInt32) &&& (255 : Int32))) &&& (255 : Int32)).toUInt32.toUInt16.toUInt32.toInt32), .unset, .unset, .unset, .unset, .unset, .unset, .unset] [(.int (255 : Int32)), (.int ((p3.toUInt32 >>> ((16 : Int32) &&& 31).toUInt32).toInt32)), (.int p1)])) (fun _ kt_ => XS.sipush X0.here hx rfl (hb hby at_73) kt_) ?_
  refine own_by (T' := s₁) (g' := (mkF m 77 #[.val (.int p0), .val (.int p1), .val (.int p2), .val (.int p3), .val (.int (((p3 &&& (3 : Int32)) % (3 : Int32)) + (1 : Int32))), .val (.int (((((p3.toUInt32 >>> ((2 : Int32) &&& 31).toUInt32).toInt32) &&& (3 : Int32)) % (3 : Int32)) + (1 : Int32))), .val (.int (((p3.toUInt32 >>> ((4 : Int32) &&& 31).toUInt32).toInt32) &&& (3 : Int32))), .val (.int (p0 &&& (255 : Int32)).toUInt32.toUInt16.toUInt32.toInt32), .val (.int (p1 &&& (255 : Int32)).toUInt32.toUInt16.toUInt32.toInt32), .val (.int (p2 &&& (255 : Int32)).toUInt32.toUInt16.toUInt32.toInt32), .val (.int ((p0 + (((p3.toUInt32 >>> ((8 : Int32) &&& 31).toUInt32).toInt32) &&& (255 : Int32))) &&& (255 : Int32)).toUInt32.toUInt16.toUInt32.toInt32), .unset, .unset, .unset, .unset, .unset, .unset, .unset] [(.int (((p3.toUInt32 >>> ((16 : Int32) &&& 31).toUInt32).toInt32) &&& (255 : Int32))), (.int p1)])) (fun _ kt_ => XS.iand X0.here hx rfl (hb hby at_76) rfl kt_) ?_
  refine own_by (T' := s₁) (g' := (mkF m 78 #[.val (.int p0), .val (.int p1), .val (.int p2), .val (.int p3), .val (.int (((p3 &&& (3 : Int32)) % (3 : Int32)) + (1 : Int32))), .val (.int (((((p3.toUInt32 >>> ((2 : Int32) &&& 31).toUInt32).toInt32) &&& (3 : Int32)) % (3 : Int32)) + (1 : Int32))), .val (.int (((p3.toUInt32 >>> ((4 : Int32) &&& 31).toUInt32).toInt32) &&& (3 : Int32))), .val (.int (p0 &&& (255 : Int32)).toUInt32.toUInt16.toUInt32.toInt32), .val (.int (p1 &&& (255 : Int32)).toUInt32.toUInt16.toUInt32.toInt32), .val (.int (p2 &&& (255 : Int32)).toUInt32.toUInt16.toUInt32.toInt32), .val (.int ((p0 + (((p3.toUInt32 >>> ((8 : Int32) &&& 31).toUInt32).toInt32) &&& (255 : Int32))) &&& (255 : Int32)).toUInt32.toUInt16.toUInt32.toInt32), .unset, .unset, .unset, .unset, .unset, .unset, .unset] [(.int (p1 + (((p3.toUInt32 >>> ((16 : Int32) &&& 31).toUInt32).toInt32) &&& (255 : Int32))))])) (fun _ kt_ => XS.iadd X0.here hx rfl (hb hby at_77) rfl kt_) ?_
  refine own_by (T' := s₁) (g' := (mkF m 81 #[.val (.int p0), .val (.int p1), .val (.int p2), .val (.int p3), .val (.int (((p3 &&& (3 : Int32)) % (3 : Int32)) + (1 : Int32))), .val (.int (((((p3.toUInt32 >>> ((2 : Int32) &&& 31).toUInt32).toInt32) &&& (3 : Int32)) % (3 : Int32)) + (1 : Int32))), .val (.int (((p3.toUInt32 >>> ((4 : Int32) &&& 31).toUInt32).toInt32) &&& (3 : Int32))), .val (.int (p0 &&& (255 : Int32)).toUInt32.toUInt16.toUInt32.toInt32), .val (.int (p1 &&& (255 : Int32)).toUInt32.toUInt16.toUInt32.toInt32), .val (.int (p2 &&& (255 : Int32)).toUInt32.toUInt16.toUInt32.toInt32), .val (.int ((p0 + (((p3.toUInt32 >>> ((8 : Int32) &&& 31).toUInt32).toInt32) &&& (255 : Int32))) &&& (255 : Int32)).toUInt32.toUInt16.toUInt32.toInt32), .unset, .unset, .unset, .unset, .unset, .unset, .unset] [(.int (255 : Int32)), (.int (p1 + (((p3.toUInt32 >>> ((16 : Int32) &&& 31).toUInt32).toInt32) &&& (255 : Int32))))])) (fun _ kt_ => XS.sipush X0.here hx rfl (hb hby at_78) kt_) ?_
  refine own_by (T' := s₁) (g' := (mkF m 82 #[.val (.int p0), .val (.int p1), .val (.int p2), .val (.int p3), .val (.int (((p3 &&& (3 : Int32)) % (3 : Int32)) + (1 : Int32))), .val (.int (((((p3.toUInt32 >>> ((2 : Int32) &&& 31).toUInt32).toInt32) &&& (3 : Int32)) % (3 : Int32)) + (1 : Int32))), .val (.int (((p3.toUInt32 >>> ((4 : Int32) &&& 31).toUInt32).toInt32) &&& (3 : Int32))), .val (.int (p0 &&& (255 : Int32)).toUInt32.toUInt16.toUInt32.toInt32), .val (.int (p1 &&& (255 : Int32)).toUInt32.toUInt16.toUInt32.toInt32), .val (.int (p2 &&& (255 : Int32)).toUInt32.toUInt16.toUInt32.toInt32), .val (.int ((p0 + (((p3.toUInt32 >>> ((8 : Int32) &&& 31).toUInt32).toInt32) &&& (255 : Int32))) &&& (255 : Int32)).toUInt32.toUInt16.toUInt32.toInt32), .unset, .unset, .unset, .unset, .unset, .unset, .unset] [(.int ((p1 + (((p3.toUInt32 >>> ((16 : Int32) &&& 31).toUInt32).toInt32) &&& (255 : Int32))) &&& (255 : Int32)))])) (fun _ kt_ => XS.iand X0.here hx rfl (hb hby at_81) rfl kt_) ?_
  refine own_by (T' := s₁) (g' := (mkF m 83 #[.val (.int p0), .val (.int p1), .val (.int p2), .val (.int p3), .val (.int (((p3 &&& (3 : Int32)) % (3 : Int32)) + (1 : Int32))), .val (.int (((((p3.toUInt32 >>> ((2 : Int32) &&& 31).toUInt32).toInt32) &&& (3 : Int32)) % (3 : Int32)) + (1 : Int32))), .val (.int (((p3.toUInt32 >>> ((4 : Int32) &&& 31).toUInt32).toInt32) &&& (3 : Int32))), .val (.int (p0 &&& (255 : Int32)).toUInt32.toUInt16.toUInt32.toInt32), .val (.int (p1 &&& (255 : Int32)).toUInt32.toUInt16.toUInt32.toInt32), .val (.int (p2 &&& (255 : Int32)).toUInt32.toUInt16.toUInt32.toInt32), .val (.int ((p0 + (((p3.toUInt32 >>> ((8 : Int32) &&& 31).toUInt32).toInt32) &&& (255 : Int32))) &&& (255 : Int32)).toUInt32.toUInt16.toUInt32.toInt32), .unset, .unset, .unset, .unset, .unset, .unset, .unset] [(.int ((p1 + (((p3.toUInt32 >>> ((16 : Int32) &&& 31).toUInt32).toInt32) &&& (255 : Int32))) &&& (255 : Int32)).toUInt32.toUInt16.toUInt32.toInt32)])) (fun _ kt_ => XS.i2c X0.here hx rfl (hb hby at_82) rfl kt_) ?_
  refine own_by (T' := s₁) (g' := (mkF m 85 #[.val (.int p0), .val (.int p1), .val (.int p2), .val (.int p3), .val (.int (((p3 &&& (3 : Int32)) % (3 : Int32)) + (1 : Int32))), .val (.int (((((p3.toUInt32 >>> ((2 : Int32) &&& 31).toUInt32).toInt32) &&& (3 : Int32)) % (3 : Int32)) + (1 : Int32))), .val (.int (((p3.toUInt32 >>> ((4 : Int32) &&& 31).toUInt32).toInt32) &&& (3 : Int32))), .val (.int (p0 &&& (255 : Int32)).toUInt32.toUInt16.toUInt32.toInt32), .val (.int (p1 &&& (255 : Int32)).toUInt32.toUInt16.toUInt32.toInt32), .val (.int (p2 &&& (255 : Int32)).toUInt32.toUInt16.toUInt32.toInt32), .val (.int ((p0 + (((p3.toUInt32 >>> ((8 : Int32) &&& 31).toUInt32).toInt32) &&& (255 : Int32))) &&& (255 : Int32)).toUInt32.toUInt16.toUInt32.toInt32), .val (.int ((p1 + (((p3.toUInt32 >>> ((16 : Int32) &&& 31).toUInt32).toInt32) &&& (255 : Int32))) &&& (255 : Int32)).toUInt32.toUInt16.toUInt32.toInt32), .unset, .unset, .unset, .unset, .unset, .unset] [])) (fun _ kt_ => XS.istore X0.here hx rfl (hb hby at_83) rfl (l' := #[.val (.int p0), .val (.int p1), .val (.int p2), .val (.int p3), .val (.int (((p3 &&& (3 : Int32)) % (3 : Int32)) + (1 : Int32))), .val (.int (((((p3.toUInt32 >>> ((2 : Int32) &&& 31).toUInt32).toInt32) &&& (3 : Int32)) % (3 : Int32)) + (1 : Int32))), .val (.int (((p3.toUInt32 >>> ((4 : Int32) &&& 31).toUInt32).toInt32) &&& (3 : Int32))), .val (.int (p0 &&& (255 : Int32)).toUInt32.toUInt16.toUInt32.toInt32), .val (.int (p1 &&& (255 : Int32)).toUInt32.toUInt16.toUInt32.toInt32), .val (.int (p2 &&& (255 : Int32)).toUInt32.toUInt16.toUInt32.toInt32), .val (.int ((p0 + (((p3.toUInt32 >>> ((8 : Int32) &&& 31).toUInt32).toInt32) &&& (255 : Int32))) &&& (255 : Int32)).toUInt32.toUInt16.toUInt32.toInt32), .val (.int ((p1 + (((p3.toUInt32 >>> ((16 : Int32) &&& 31).toUInt32).toInt32) &&& (255 : Int32))) &&& (255 : Int32)).toUInt32.toUInt16.toUInt32.toInt32), .unset, .unset, .unset, .unset, .unset, .unset]) rfl kt_) ?_
  refine own_by (T' := s₁) (g' := (mkF m 86 #[.val (.int p0), .val (.int p1), .val (.int p2), .val (.int p3), .val (.int (((p3 &&& (3 : Int32)) % (3 : Int32)) + (1 : Int32))), .val (.int (((((p3.toUInt32 >>> ((2 : Int32) &&& 31).toUInt32).toInt32) &&& (3 : Int32)) % (3 : Int32)) + (1 : Int32))), .val (.int (((p3.toUInt32 >>> ((4 : Int32) &&& 31).toUInt32).toInt32) &&& (3 : Int32))), .val (.int (p0 &&& (255 : Int32)).toUInt32.toUInt16.toUInt32.toInt32), .val (.int (p1 &&& (255 : Int32)).toUInt32.toUInt16.toUInt32.toInt32), .val (.int (p2 &&& (255 : Int32)).toUInt32.toUInt16.toUInt32.toInt32), .val (.int ((p0 + (((p3.toUInt32 >>> ((8 : Int32) &&& 31).toUInt32).toInt32) &&& (255 : Int32))) &&& (255 : Int32)).toUInt32.toUInt16.toUInt32.toInt32), .val (.int ((p1 + (((p3.toUInt32 >>> ((16 : Int32) &&& 31).toUInt32).toInt32) &&& (255 : Int32))) &&& (255 : Int32)).toUInt32.toUInt16.toUInt32.toInt32), .unset, .unset, .unset, .unset, .unset, .unset] [(.int p2)])) (fun _ kt_ => XS.iloadN X0.here hx rfl (hb hby at_85) rfl kt_) ?_
  refine own_by (T' := s₁) (g' := (mkF m 87 #[.val (.int p0), .val (.int p1), .val (.int p2), .val (.int p3), .val (.int (((p3 &&& (3 : Int32)) % (3 : Int32)) + (1 : Int32))), .val (.int (((((p3.toUInt32 >>> ((2 : Int32) &&& 31).toUInt32).toInt32) &&& (3 : Int32)) % (3 : Int32)) + (1 : Int32))), .val (.int (((p3.toUInt32 >>> ((4 : Int32) &&& 31).toUInt32).toInt32) &&& (3 : Int32))), .val (.int (p0 &&& (255 : Int32)).toUInt32.toUInt16.toUInt32.toInt32), .val (.int (p1 &&& (255 : Int32)).toUInt32.toUInt16.toUInt32.toInt32), .val (.int (p2 &&& (255 : Int32)).toUInt32.toUInt16.toUInt32.toInt32), .val (.int ((p0 + (((p3.toUInt32 >>> ((8 : Int32) &&& 31).toUInt32).toInt32) &&& (255 : Int32))) &&& (255 : Int32)).toUInt32.toUInt16.toUInt32.toInt32), .val (.int ((p1 + (((p3.toUInt32 >>> ((16 : Int32) &&& 31).toUInt32).toInt32) &&& (255 : Int32))) &&& (255 : Int32)).toUInt32.toUInt16.toUInt32.toInt32), .unset, .unset, .unset, .unset, .unset, .unset] [(.int p3), (.int p2)])) (fun _ kt_ => XS.iloadN X0.here hx rfl (hb hby at_86) rfl kt_) ?_
  refine own_by (T' := s₁) (g' := (mkF m 89 #[.val (.int p0), .val (.int p1), .val (.int p2), .val (.int p3), .val (.int (((p3 &&& (3 : Int32)) % (3 : Int32)) + (1 : Int32))), .val (.int (((((p3.toUInt32 >>> ((2 : Int32) &&& 31).toUInt32).toInt32) &&& (3 : Int32)) % (3 : Int32)) + (1 : Int32))), .val (.int (((p3.toUInt32 >>> ((4 : Int32) &&& 31).toUInt32).toInt32) &&& (3 : Int32))), .val (.int (p0 &&& (255 : Int32)).toUInt32.toUInt16.toUInt32.toInt32), .val (.int (p1 &&& (255 : Int32)).toUInt32.toUInt16.toUInt32.toInt32), .val (.int (p2 &&& (255 : Int32)).toUInt32.toUInt16.toUInt32.toInt32), .val (.int ((p0 + (((p3.toUInt32 >>> ((8 : Int32) &&& 31).toUInt32).toInt32) &&& (255 : Int32))) &&& (255 : Int32)).toUInt32.toUInt16.toUInt32.toInt32), .val (.int ((p1 + (((p3.toUInt32 >>> ((16 : Int32) &&& 31).toUInt32).toInt32) &&& (255 : Int32))) &&& (255 : Int32)).toUInt32.toUInt16.toUInt32.toInt32), .unset, .unset, .unset, .unset, .unset, .unset] [(.int (24 : Int32)), (.int p3), (.int p2)])) (fun _ kt_ => XS.bipush X0.here hx rfl (hb hby at_87) kt_) ?_
  refine own_by (T' := s₁) (g' := (mkF m 90 #[.val (.int p0), .val (.int p1), .val (.int p2), .val (.int p3), .val (.int (((p3 &&& (3 : Int32)) % (3 : Int32)) + (1 : Int32))), .val (.int (((((p3.toUInt32 >>> ((2 : Int32) &&& 31).toUInt32).toInt32) &&& (3 : Int32)) % (3 : Int32)) + (1 : Int32))), .val (.int (((p3.toUInt32 >>> ((4 : Int32) &&& 31).toUInt32).toInt32) &&& (3 : Int32))), .val (.int (p0 &&& (255 : Int32)).toUInt32.toUInt16.toUInt32.toInt32), .val (.int (p1 &&& (255 : Int32)).toUInt32.toUInt16.toUInt32.toInt32), .val (.int (p2 &&& (255 : Int32)).toUInt32.toUInt16.toUInt32.toInt32), .val (.int ((p0 + (((p3.toUInt32 >>> ((8 : Int32) &&& 31).toUInt32).toInt32) &&& (255 : Int32))) &&& (255 : Int32)).toUInt32.toUInt16.toUInt32.toInt32), .val (.int ((p1 + (((p3.toUInt32 >>> ((16 : Int32) &&& 31).toUInt32).toInt32) &&& (255 : Int32))) &&& (255 : Int32)).toUInt32.toUInt16.toUInt32.toInt32), .unset, .unset, .unset, .unset, .unset, .unset] [(.int ((p3.toUInt32 >>> ((24 : Int32) &&& 31).toUInt32).toInt32)), (.int p2)])) (fun _ kt_ => XS.iushr X0.here hx rfl (hb hby at_89) rfl kt_) ?_
  refine own_by (T' := s₁) (g' := (mkF m 93 #[.val (.int p0), .val (.int p1), .val (.int p2), .val (.int p3), .val (.int (((p3 &&& (3 : Int32)) % (3 : Int32)) + (1 : Int32))), .val (.int (((((p3.toUInt32 >>> ((2 : Int32) &&& 31).toUInt32).toInt32) &&& (3 : Int32)) % (3 : Int32)) + (1 : Int32))), .val (.int (((p3.toUInt32 >>> ((4 : Int32) &&& 31).toUInt32).toInt32) &&& (3 : Int32))), .val (.int (p0 &&& (255 : Int32)).toUInt32.toUInt16.toUInt32.toInt32), .val (.int (p1 &&& (255 : Int32)).toUInt32.toUInt16.toUInt32.toInt32), .val (.int (p2 &&& (255 : Int32)).toUInt32.toUInt16.toUInt32.toInt32), .val (.int ((p0 + (((p3.toUInt32 >>> ((8 : Int32) &&& 31).toUInt32).toInt32) &&& (255 : Int32))) &&& (255 : Int32)).toUInt32.toUInt16.toUInt32.toInt32), .val (.int ((p1 + (((p3.toUInt32 >>> ((16 : Int32) &&& 31).toUInt32).toInt32) &&& (255 : Int32))) &&& (255 : Int32)).toUInt32.toUInt16.toUInt32.toInt32), .unset, .unset, .unset, .unset, .unset, .unset] [(.int (255 : Int32)), (.int ((p3.toUInt32 >>> ((24 : Int32) &&& 31).toUInt32).toInt32)), (.int p2)])) (fun _ kt_ => XS.sipush X0.here hx rfl (hb hby at_90) kt_) ?_
  refine own_by (T' := s₁) (g' := (mkF m 94 #[.val (.int p0), .val (.int p1), .val (.int p2), .val (.int p3), .val (.int (((p3 &&& (3 : Int32)) % (3 : Int32)) + (1 : Int32))), .val (.int (((((p3.toUInt32 >>> ((2 : Int32) &&& 31).toUInt32).toInt32) &&& (3 : Int32)) % (3 : Int32)) + (1 : Int32))), .val (.int (((p3.toUInt32 >>> ((4 : Int32) &&& 31).toUInt32).toInt32) &&& (3 : Int32))), .val (.int (p0 &&& (255 : Int32)).toUInt32.toUInt16.toUInt32.toInt32), .val (.int (p1 &&& (255 : Int32)).toUInt32.toUInt16.toUInt32.toInt32), .val (.int (p2 &&& (255 : Int32)).toUInt32.toUInt16.toUInt32.toInt32), .val (.int ((p0 + (((p3.toUInt32 >>> ((8 : Int32) &&& 31).toUInt32).toInt32) &&& (255 : Int32))) &&& (255 : Int32)).toUInt32.toUInt16.toUInt32.toInt32), .val (.int ((p1 + (((p3.toUInt32 >>> ((16 : Int32) &&& 31).toUInt32).toInt32) &&& (255 : Int32))) &&& (255 : Int32)).toUInt32.toUInt16.toUInt32.toInt32), .unset, .unset, .unset, .unset, .unset, .unset] [(.int (((p3.toUInt32 >>> ((24 : Int32) &&& 31).toUInt32).toInt32) &&& (255 : Int32))), (.int p2)])) (fun _ kt_ => XS.iand X0.here hx rfl (hb hby at_93) rfl kt_) ?_
  refine own_by (T' := s₁) (g' := (mkF m 95 #[.val (.int p0), .val (.int p1), .val (.int p2), .val (.int p3), .val (.int (((p3 &&& (3 : Int32)) % (3 : Int32)) + (1 : Int32))), .val (.int (((((p3.toUInt32 >>> ((2 : Int32) &&& 31).toUInt32).toInt32) &&& (3 : Int32)) % (3 : Int32)) + (1 : Int32))), .val (.int (((p3.toUInt32 >>> ((4 : Int32) &&& 31).toUInt32).toInt32) &&& (3 : Int32))), .val (.int (p0 &&& (255 : Int32)).toUInt32.toUInt16.toUInt32.toInt32), .val (.int (p1 &&& (255 : Int32)).toUInt32.toUInt16.toUInt32.toInt32), .val (.int (p2 &&& (255 : Int32)).toUInt32.toUInt16.toUInt32.toInt32), .val (.int ((p0 + (((p3.toUInt32 >>> ((8 : Int32) &&& 31).toUInt32).toInt32) &&& (255 : Int32))) &&& (255 : Int32)).toUInt32.toUInt16.toUInt32.toInt32), .val (.int ((p1 + (((p3.toUInt32 >>> ((16 : Int32) &&& 31).toUInt32).toInt32) &&& (255 : Int32))) &&& (255 : Int32)).toUInt32.toUInt16.toUInt32.toInt32), .unset, .unset, .unset, .unset, .unset, .unset] [(.int (p2 + (((p3.toUInt32 >>> ((24 : Int32) &&& 31).toUInt32).toInt32) &&& (255 : Int32))))])) (fun _ kt_ => XS.iadd X0.here hx rfl (hb hby at_94) rfl kt_) ?_
  refine own_by (T' := s₁) (g' := (mkF m 98 #[.val (.int p0), .val (.int p1), .val (.int p2), .val (.int p3), .val (.int (((p3 &&& (3 : Int32)) % (3 : Int32)) + (1 : Int32))), .val (.int (((((p3.toUInt32 >>> ((2 : Int32) &&& 31).toUInt32).toInt32) &&& (3 : Int32)) % (3 : Int32)) + (1 : Int32))), .val (.int (((p3.toUInt32 >>> ((4 : Int32) &&& 31).toUInt32).toInt32) &&& (3 : Int32))), .val (.int (p0 &&& (255 : Int32)).toUInt32.toUInt16.toUInt32.toInt32), .val (.int (p1 &&& (255 : Int32)).toUInt32.toUInt16.toUInt32.toInt32), .val (.int (p2 &&& (255 : Int32)).toUInt32.toUInt16.toUInt32.toInt32), .val (.int ((p0 + (((p3.toUInt32 >>> ((8 : Int32) &&& 31).toUInt32).toInt32) &&& (255 : Int32))) &&& (255 : Int32)).toUInt32.toUInt16.toUInt32.toInt32), .val (.int ((p1 + (((p3.toUInt32 >>> ((16 : Int32) &&& 31).toUInt32).toInt32) &&& (255 : Int32))) &&& (255 : Int32)).toUInt32.toUInt16.toUInt32.toInt32), .unset, .unset, .unset, .unset, .unset, .unset] [(.int (255 : Int32)), (.int (p2 + (((p3.toUInt32 >>> ((24 : Int32) &&& 31).toUInt32).toInt32) &&& (255 : Int32))))])) (fun _ kt_ => XS.sipush X0.here hx rfl (hb hby at_95) kt_) ?_
  refine own_by (T' := s₁) (g' := (mkF m 99 #[.val (.int p0), .val (.int p1), .val (.int p2), .val (.int p3), .val (.int (((p3 &&& (3 : Int32)) % (3 : Int32)) + (1 : Int32))), .val (.int (((((p3.toUInt32 >>> ((2 : Int32) &&& 31).toUInt32).toInt32) &&& (3 : Int32)) % (3 : Int32)) + (1 : Int32))), .val (.int (((p3.toUInt32 >>> ((4 : Int32) &&& 31).toUInt32).toInt32) &&& (3 : Int32))), .val (.int (p0 &&& (255 : Int32)).toUInt32.toUInt16.toUInt32.toInt32), .val (.int (p1 &&& (255 : Int32)).toUInt32.toUInt16.toUInt32.toInt32), .val (.int (p2 &&& (255 : Int32)).toUInt32.toUInt16.toUInt32.toInt32), .val (.int ((p0 + (((p3.toUInt32 >>> ((8 : Int32) &&& 31).toUInt32).toInt32) &&& (255 : Int32))) &&& (255 : Int32)).toUInt32.toUInt16.toUInt32.toInt32), .val (.int ((p1 + (((p3.toUInt32 >>> ((16 : Int32) &&& 31).toUInt32).toInt32) &&& (255 : Int32))) &&& (255 : Int32)).toUInt32.toUInt16.toUInt32.toInt32), .unset, .unset, .unset, .unset, .unset, .unset] [(.int ((p2 + (((p3.toUInt32 >>> ((24 : Int32) &&& 31).toUInt32).toInt32) &&& (255 : Int32))) &&& (255 : Int32)))])) (fun _ kt_ => XS.iand X0.here hx rfl (hb hby at_98) rfl kt_) ?_
  have J1 : ∀ (T1 : State) (lo1 : List Loc) (X1 : Stand p l e room_1 (s.setVm s.vm) m #[(.int p0), (.int p1), (.int p2), (.int p3)] below meth c T1 lo1 0 0) (e1 : T1.heap = h0) (N1 : Fr n0 lo1) (l1 : Int32) (l2 : Int32) (a0_ : Int32) (a1_ : Int32) (a2_ : Int32) (b0_ : Int32) (b1_ : Int32) (b2_ : Int32), ((l1 = (1 : Int32) ∨ l1 = (2 : Int32) ∨ l1 = (3 : Int32)) ∧ (l2 = (1 : Int32) ∨ l2 = (2 : Int32) ∨ l2 = (3 : Int32)) ∧ okF a0_ ∧ okF a1_ ∧ okF a2_ ∧ okF b0_ ∧ okF b1_ ∧ okF b2_) → OGoal p e below (fun oo_ UV_ => ∃ vv_ LL_, oo_ = .returned vv_ ∧ Q_rm0 Z zC p0 p1 p2 p3 h0 n0 vv_ UV_.heap LL_ ∧ ReturnedEndW s oo_ UV_ LL_ 12 94) T1 (mkF m 102 #[.val (.int p0), .val (.int p1), .val (.int p2), .val (.int p3), .val (.int l1), .val (.int l2), .val (.int (((p3.toUInt32 >>> ((4 : Int32) &&& 31).toUInt32).toInt32) &&& (3 : Int32))), .val (.int a0_), .val (.int a1_), .val (.int a2_), .val (.int b0_), .val (.int b1_), .val (.int b2_), .unset, .unset, .unset, .unset, .unset] []) := by
    intro T1 lo1 X1 e1 N1 l1 l2 a0_ a1_ a2_ b0_ b1_ b2_  hj2
    obtain ⟨hl1, hl2, ok_a0_, ok_a1_, ok_a2_, ok_b0_, ok_b1_, ok_b2_⟩ := hj2
    refine own_by (T' := T1) (g' := (mkF m 104 #[.val (.int p0), .val (.int p1), .val (.int p2), .val (.int p3), .val (.int l1), .val (.int l2), .val (.int (((p3.toUInt32 >>> ((4 : Int32) &&& 31).toUInt32).toInt32) &&& (3 : Int32))), .val (.int a0_), .val (.int a1_), .val (.int a2_), .val (.int b0_), .val (.int b1_), .val (.int b2_), .unset, .unset, .unset, .unset, .unset] [(.int l1)])) (fun _ kt_ => XS.iload X1.here hx rfl (hb hby at_102) rfl kt_) ?_
    refine own_by (T' := T1) (g' := (mkF m 106 #[.val (.int p0), .val (.int p1), .val (.int p2), .val (.int p3), .val (.int l1), .val (.int l2), .val (.int (((p3.toUInt32 >>> ((4 : Int32) &&& 31).toUInt32).toInt32) &&& (3 : Int32))), .val (.int a0_), .val (.int a1_), .val (.int a2_), .val (.int b0_), .val (.int b1_), .val (.int b2_), .unset, .unset, .unset, .unset, .unset] [(.int a0_), (.int l1)])) (fun _ kt_ => XS.iload X1.here hx rfl (hb hby at_104) rfl kt_) ?_
    refine own_by (T' := T1) (g' := (mkF m 108 #[.val (.int p0), .val (.int p1), .val (.int p2), .val (.int p3), .val (.int l1), .val (.int l2), .val (.int (((p3.toUInt32 >>> ((4 : Int32) &&& 31).toUInt32).toInt32) &&& (3 : Int32))), .val (.int a0_), .val (.int a1_), .val (.int a2_), .val (.int b0_), .val (.int b1_), .val (.int b2_), .unset, .unset, .unset, .unset, .unset] [(.int a1_), (.int a0_), (.int l1)])) (fun _ kt_ => XS.iload X1.here hx rfl (hb hby at_106) rfl kt_) ?_
    refine own_by (T' := T1) (g' := (mkF m 110 #[.val (.int p0), .val (.int p1), .val (.int p2), .val (.int p3), .val (.int l1), .val (.int l2), .val (.int (((p3.toUInt32 >>> ((4 : Int32) &&& 31).toUInt32).toInt32) &&& (3 : Int32))), .val (.int a0_), .val (.int a1_), .val (.int a2_), .val (.int b0_), .val (.int b1_), .val (.int b2_), .unset, .unset, .unset, .unset, .unset] [(.int a2_), (.int a1_), (.int a0_), (.int l1)])) (fun _ kt_ => XS.iload X1.here hx rfl (hb hby at_108) rfl kt_) ?_
    obtain ⟨_, _, ⟨T3, L3, k3, n3⟩, -, X3, ⟨Lc3, hQ3, l3, y3, z3⟩, st3⟩ := Jvm.LawKit.callS X1 hx (y := (⟨"com/example/dependency_wiring/dependencywiring/BeanNameReferenceEqualsPinLaw", "mk", "(ICCC)Ljava/lang/String;"⟩ : MethodName)) hown (mvT hZ (hw _ (List.mem_of_getElem? (i := 0) rfl))) (mvT hZ (hw _ (List.mem_of_getElem? (i := 1) rfl))) (mvT hZ (hw _ (List.mem_of_getElem? (i := 2) rfl))) (mvT hZ (hw _ (List.mem_of_getElem? (i := 3) rfl))) (by decide) (backOf (W := 0) (rmMk l Z a0 hw [] zC GS l1 a0_ a1_ a2_ h0 n0 (by omega) O0 hl1 ok_a0_ ok_a1_ ok_a2_) hZ (hw _ (List.mem_of_getElem? (i := 3) rfl)) (hw _ (List.mem_of_getElem? (i := 2) rfl)) (by decide) (by decide)) (g := (mkF m 110 #[.val (.int p0), .val (.int p1), .val (.int p2), .val (.int p3), .val (.int l1), .val (.int l2), .val (.int (((p3.toUInt32 >>> ((4 : Int32) &&& 31).toUInt32).toInt32) &&& (3 : Int32))), .val (.int a0_), .val (.int a1_), .val (.int a2_), .val (.int b0_), .val (.int b1_), .val (.int b2_), .unset, .unset, .unset, .unset, .unset] [(.int a2_), (.int a1_), (.int a0_), (.int l1)])) rfl (by rw [hml]; rfl) (argsL := [(.int l1), (.int a0_), (.int a1_), (.int a2_)]) (rest := []) (lenOf own_pd_9 rfl) rfl (by show 2 * 0 + _ ≤ _; exact Nat.le_of_eq rfl) (hb hby at_110) (fun _ _ => ⟨rfl, e1, (by decide : 0 + 3 ≤ _), (by decide : 0 + 10 ≤ _)⟩)
    dsimp only [Pt.U, Pt.locs, Pt.cells, Pt.slots] at X3 l3 y3 z3 st3 hQ3
    subst l3 y3 z3
    obtain ⟨x_4, t_5, kB_6, rfl, N3q, K3, p3_0, p3_1, p3_2, p3_3, p3_4, p3_5⟩ := hQ3
    have N7 := Fr.app N1 N3q
    have gx_4 : h0.size ≤ x_4 := p3_0
    have gt_5 : h0.size ≤ t_5 := p3_1
    have zzK3 : h0.size ≤ T3.heap.size := K3.1
    have oo8 : Old Z n0 T3.heap := O0.keep K3 all0
    have kt9 : Keep h0 T3.heap [] := KT0.trans K3 all0
    refine own_by (T' := T3) (g' := (mkF m 113 #[.val (.int p0), .val (.int p1), .val (.int p2), .val (.int p3), .val (.int l1), .val (.int l2), .val (.int (((p3.toUInt32 >>> ((4 : Int32) &&& 31).toUInt32).toInt32) &&& (3 : Int32))), .val (.int a0_), .val (.int a1_), .val (.int a2_), .val (.int b0_), .val (.int b1_), .val (.int b2_), .unset, .unset, .unset, .unset, .unset] [(.ref x_4)])) st3 ?_
    refine own_by (T' := T3) (g' := (mkF m 115 #[.val (.int p0), .val (.int p1), .val (.int p2), .val (.int p3), .val (.int l1), .val (.int l2), .val (.int (((p3.toUInt32 >>> ((4 : Int32) &&& 31).toUInt32).toInt32) &&& (3 : Int32))), .val (.int a0_), .val (.int a1_), .val (.int a2_), .val (.int b0_), .val (.int b1_), .val (.int b2_), .val (.ref x_4), .unset, .unset, .unset, .unset] [])) (fun _ kt_ => XS.astore X3.here hx rfl (hb hby at_113) rfl rfl (l' := #[.val (.int p0), .val (.int p1), .val (.int p2), .val (.int p3), .val (.int l1), .val (.int l2), .val (.int (((p3.toUInt32 >>> ((4 : Int32) &&& 31).toUInt32).toInt32) &&& (3 : Int32))), .val (.int a0_), .val (.int a1_), .val (.int a2_), .val (.int b0_), .val (.int b1_), .val (.int b2_), .val (.ref x_4), .unset, .unset, .unset, .unset]) rfl kt_) ?_
    refine own_by (T' := T3) (g' := (mkF m 117 #[.val (.int p0), .val (.int p1), .val (.int p2), .val (.int p3), .val (.int l1), .val (.int l2), .val (.int (((p3.toUInt32 >>> ((4 : Int32) &&& 31).toUInt32).toInt32) &&& (3 : Int32))), .val (.int a0_), .val (.int a1_), .val (.int a2_), .val (.int b0_), .val (.int b1_), .val (.int b2_), .val (.ref x_4), .unset, .unset, .unset, .unset] [(.int l2)])) (fun _ kt_ => XS.iload X3.here hx rfl (hb hby at_115) rfl kt_) ?_
    refine own_by (T' := T3) (g' := (mkF m 119 #[.val (.int p0), .val (.int p1), .val (.int p2), .val (.int p3), .val (.int l1), .val (.int l2), .val (.int (((p3.toUInt32 >>> ((4 : Int32) &&& 31).toUInt32).toInt32) &&& (3 : Int32))), .val (.int a0_), .val (.int a1_), .val (.int a2_), .val (.int b0_), .val (.int b1_), .val (.int b2_), .val (.ref x_4), .unset, .unset, .unset, .unset] [(.int b0_), (.int l2)])) (fun _ kt_ => XS.iload X3.here hx rfl (hb hby at_117) rfl kt_) ?_
    refine own_by (T' := T3) (g' := (mkF m 121 #[.val (.int p0), .val (.int p1), .val (.int p2), .val (.int p3), .val (.int l1), .val (.int l2), .val (.int (((p3.toUInt32 >>> ((4 : Int32) &&& 31).toUInt32).toInt32) &&& (3 : Int32))), .val (.int a0_), .val (.int a1_), .val (.int a2_), .val (.int b0_), .val (.int b1_), .val (.int b2_), .val (.ref x_4), .unset, .unset, .unset, .unset] [(.int b1_), (.int b0_), (.int l2)])) (fun _ kt_ => XS.iload X3.here hx rfl (hb hby at_119) rfl kt_) ?_
    refine own_by (T' := T3) (g' := (mkF m 123 #[.val (.int p0), .val (.int p1), .val (.int p2), .val (.int p3), .val (.int l1), .val (.int l2), .val (.int (((p3.toUInt32 >>> ((4 : Int32) &&& 31).toUInt32).toInt32) &&& (3 : Int32))), .val (.int a0_), .val (.int a1_), .val (.int a2_), .val (.int b0_), .val (.int b1_), .val (.int b2_), .val (.ref x_4), .unset, .unset, .unset, .unset] [(.int b2_), (.int b1_), (.int b0_), (.int l2)])) (fun _ kt_ => XS.iload X3.here hx rfl (hb hby at_121) rfl kt_) ?_
    obtain ⟨_, _, ⟨T10, L10, k10, n10⟩, -, X10, ⟨Lc10, hQ10, l10, y10, z10⟩, st10⟩ := Jvm.LawKit.callS X3 hx (y := (⟨"com/example/dependency_wiring/dependencywiring/BeanNameReferenceEqualsPinLaw", "mk", "(ICCC)Ljava/lang/String;"⟩ : MethodName)) hown (mvT hZ (hw _ (List.mem_of_getElem? (i := 0) rfl))) (mvT hZ (hw _ (List.mem_of_getElem? (i := 1) rfl))) (mvT hZ (hw _ (List.mem_of_getElem? (i := 2) rfl))) (mvT hZ (hw _ (List.mem_of_getElem? (i := 3) rfl))) (by decide) (backOf (W := 0) (rmMk l Z a0 hw [] zC GS l2 b0_ b1_ b2_ T3.heap n0 (by omega) oo8 hl2 ok_b0_ ok_b1_ ok_b2_) hZ (hw _ (List.mem_of_getElem? (i := 3) rfl)) (hw _ (List.mem_of_getElem? (i := 2) rfl)) (by decide) (by decide)) (g := (mkF m 123 #[.val (.int p0), .val (.int p1), .val (.int p2), .val (.int p3), .val (.int l1), .val (.int l2), .val (.int (((p3.toUInt32 >>> ((4 : Int32) &&& 31).toUInt32).toInt32) &&& (3 : Int32))), .val (.int a0_), .val (.int a1_), .val (.int a2_), .val (.int b0_), .val (.int b1_), .val (.int b2_), .val (.ref x_4), .unset, .unset, .unset, .unset] [(.int b2_), (.int b1_), (.int b0_), (.int l2)])) rfl (by rw [hml]; rfl) (argsL := [(.int l2), (.int b0_), (.int b1_), (.int b2_)]) (rest := []) (lenOf own_pd_9 rfl) rfl (by show 2 * 0 + _ ≤ _; exact Nat.le_of_eq rfl) (hb hby at_123) (fun _ _ => ⟨rfl, rfl, (by decide : 3 + 3 ≤ _), (by decide : 10 + 10 ≤ _)⟩)
    dsimp only [Pt.U, Pt.locs, Pt.cells, Pt.slots] at X10 l10 y10 z10 st10 hQ10
    subst l10 y10 z10
    obtain ⟨x_11, t_12, kB_13, rfl, N10q, K10, p10_0, p10_1, p10_2, p10_3, p10_4, p10_5⟩ := hQ10
    have N14 := Fr.app N7 N10q
    have gx_11 : T3.heap.size ≤ x_11 := p10_0
    have gt_12 : T3.heap.size ≤ t_12 := p10_1
    have zzK10 : T3.heap.size ≤ T10.heap.size := K10.1
    have oo15 : Old Z n0 T10.heap := oo8.keep K10 all0
    have kt16 : Keep h0 T10.heap [] := kt9.trans K10 all0
    refine own_by (T' := T10) (g' := (mkF m 126 #[.val (.int p0), .val (.int p1), .val (.int p2), .val (.int p3), .val (.int l1), .val (.int l2), .val (.int (((p3.toUInt32 >>> ((4 : Int32) &&& 31).toUInt32).toInt32) &&& (3 : Int32))), .val (.int a0_), .val (.int a1_), .val (.int a2_), .val (.int b0_), .val (.int b1_), .val (.int b2_), .val (.ref x_4), .unset, .unset, .unset, .unset] [(.ref x_11)])) st10 ?_
    refine own_by (T' := T10) (g' := (mkF m 128 #[.val (.int p0), .val (.int p1), .val (.int p2), .val (.int p3), .val (.int l1), .val (.int l2), .val (.int (((p3.toUInt32 >>> ((4 : Int32) &&& 31).toUInt32).toInt32) &&& (3 : Int32))), .val (.int a0_), .val (.int a1_), .val (.int a2_), .val (.int b0_), .val (.int b1_), .val (.int b2_), .val (.ref x_4), .val (.ref x_11), .unset, .unset, .unset] [])) (fun _ kt_ => XS.astore X10.here hx rfl (hb hby at_126) rfl rfl (l' := #[.val (.int p0), .val (.int p1), .val (.int p2), .val (.int p3), .val (.int l1), .val (.int l2), .val (.int (((p3.toUInt32 >>> ((4 : Int32) &&& 31).toUInt32).toInt32) &&& (3 : Int32))), .val (.int a0_), .val (.int a1_), .val (.int a2_), .val (.int b0_), .val (.int b1_), .val (.int b2_), .val (.ref x_4), .val (.ref x_11), .unset, .unset, .unset]) rfl kt_) ?_
    obtain ⟨T17, h17, X17, e17, E17, A17, D17, -, st17⟩ := newO X10 hx hZ hown (hw _ (List.mem_of_getElem? (i := 34) rfl)) (hw _ (List.mem_of_getElem? (i := 35) rfl)) (hw _ (List.mem_of_getElem? (i := 36) rfl)) rfl (g := (mkF m 128 #[.val (.int p0), .val (.int p1), .val (.int p2), .val (.int p3), .val (.int l1), .val (.int l2), .val (.int (((p3.toUInt32 >>> ((4 : Int32) &&& 31).toUInt32).toInt32) &&& (3 : Int32))), .val (.int a0_), .val (.int a1_), .val (.int a2_), .val (.int b0_), .val (.int b1_), .val (.int b2_), .val (.ref x_4), .val (.ref x_11), .unset, .unset, .unset] [])) rfl (hb hby at_128) (by decide) (by decide)
    obtain ⟨b17, g17⟩ : ∃ z, z = T10.heap.size := ⟨_, rfl⟩
    rw [← g17] at A17 D17 st17
    have K18 : Keep T10.heap h17 [] := own_kext E17
    have zzK18 : T10.heap.size ≤ h17.size := K18.1
    have oo19 : Old Z n0 h17 := oo15.keep K18 all0
    have kt20 : Keep h0 h17 [] := kt16.trans K18 all0
    have lab17 : b17 < h17.size := A17.lt
    have f21 : Fld Z h17 b17 "com/example/dependency_wiring/dependencywiring/BeanNameReference" "beanName" "Ljava/lang/String;" .null := D17 (Or.inr (hw _ (List.mem_of_getElem? (i := 55) rfl))) (ty := (.object "java/lang/String")) (by decide)
    refine own_by (T' := T17) (g' := (mkF m 131 #[.val (.int p0), .val (.int p1), .val (.int p2), .val (.int p3), .val (.int l1), .val (.int l2), .val (.int (((p3.toUInt32 >>> ((4 : Int32) &&& 31).toUInt32).toInt32) &&& (3 : Int32))), .val (.int a0_), .val (.int a1_), .val (.int a2_), .val (.int b0_), .val (.int b1_), .val (.int b2_), .val (.ref x_4), .val (.ref x_11), .unset, .unset, .unset] [(.ref b17)])) st17 ?_
    refine own_by (T' := T17) (g' := (mkF m 132 #[.val (.int p0), .val (.int p1), .val (.int p2), .val (.int p3), .val (.int l1), .val (.int l2), .val (.int (((p3.toUInt32 >>> ((4 : Int32) &&& 31).toUInt32).toInt32) &&& (3 : Int32))), .val (.int a0_), .val (.int a1_), .val (.int a2_), .val (.int b0_), .val (.int b1_), .val (.int b2_), .val (.ref x_4), .val (.ref x_11), .unset, .unset, .unset] [(.ref b17), (.ref b17)])) (fun _ kt_ => XS.dup X17.here hx rfl (hb hby at_131) rfl rfl kt_) ?_
    refine own_by (T' := T17) (g' := (mkF m 134 #[.val (.int p0), .val (.int p1), .val (.int p2), .val (.int p3), .val (.int l1), .val (.int l2), .val (.int (((p3.toUInt32 >>> ((4 : Int32) &&& 31).toUInt32).toInt32) &&& (3 : Int32))), .val (.int a0_), .val (.int a1_), .val (.int a2_), .val (.int b0_), .val (.int b1_), .val (.int b2_), .val (.ref x_4), .val (.ref x_11), .unset, .unset, .unset] [(.ref x_4), (.ref b17), (.ref b17)])) (fun _ kt_ => XS.aload X17.here hx rfl (hb hby at_132) rfl rfl kt_) ?_
    have f22 : Exa Z h17 x_4 "java/lang/String" := ((p3_2.keep K10).keep K18)
    have f23 : Fld Z h17 x_4 "java/lang/String" "value" "[B" (.ref t_5) := ((p3_3.keep K10 nin0).keep K18 nin0)
    have f24 : Arv Z h17 t_5 kB_6 .byte l1 (bF l1 a0_ a1_ a2_) (.int (0 : Int32)) := ((p3_5.keep K10 nin0).keep K18 nin0)
    obtain ⟨_, _, ⟨T25, L25, k25, n25⟩, -, Xw25, hSw25, hGw25, ⟨Lc25, hQ25, l25, y25, z25⟩, st25⟩ := X17.specialBackS hx (y := (⟨"com/example/dependency_wiring/dependencywiring/BeanNameReference", "<init>", "(Ljava/lang/String;)V"⟩ : MethodName)) rfl hown (mvT hZ (hw _ (List.mem_of_getElem? (i := 37) rfl))) (mvT hZ (hw _ (List.mem_of_getElem? (i := 38) rfl))) (mvT hZ (hw _ (List.mem_of_getElem? (i := 39) rfl))) (by decide) (backOfS (W := 1) (rmBIG l Z a0 hw [] zC GS b17 x_4 t_5 kB_6 l1 a0_ a1_ a2_ h17 n0 (by omega) oo19 A17 (by omega) f22 f21 f23 f24 hl1) hZ (hw _ (List.mem_of_getElem? (i := 39) rfl)) (hw _ (List.mem_of_getElem? (i := 36) rfl)) (by decide) (by decide)) (g := (mkF m 134 #[.val (.int p0), .val (.int p1), .val (.int p2), .val (.int p3), .val (.int l1), .val (.int l2), .val (.int (((p3.toUInt32 >>> ((4 : Int32) &&& 31).toUInt32).toInt32) &&& (3 : Int32))), .val (.int a0_), .val (.int a1_), .val (.int a2_), .val (.int b0_), .val (.int b1_), .val (.int b2_), .val (.ref x_4), .val (.ref x_11), .unset, .unset, .unset] [(.ref x_4), (.ref b17), (.ref b17)])) rfl (by rw [hml]; rfl) (Steps.refl _) (a := b17) (argsL := [(.ref x_4)]) (rest := [(.ref b17)]) (lenOf own_pd_10 rfl) rfl (by show 2 * 0 + _ ≤ _; exact Nat.le_of_eq rfl) (hb hby at_134) (fun _ _ => ⟨rfl, e17, (by decide : 7 + 2 ≤ _), (by decide : 21 + 36 ≤ _)⟩)
    dsimp only [Pt.U, Pt.locs, Pt.cells, Pt.slots] at Xw25 hSw25 hGw25 l25 y25 z25 st25 hQ25
    subst l25 y25 z25
    obtain ⟨X25, hS25, hZ25, hown25⟩ := rebS hS0 (by rw [e17]; omega) Xw25 hSw25 hGw25 hZ hown
    obtain ⟨rfl, N25q, K25, p25_0⟩ := hQ25
    have N26 := Fr.app N14 N25q
    have zzK25 : h17.size ≤ T25.heap.size := K25.1
    have oo27 : Old Z n0 T25.heap := oo19.keep K25 (allS (by omega : n0 ≤ b17) all0)
    have kt28 : Keep h0 T25.heap [] := kt20.trans K25 (allS (Or.inr (by omega : h0.size ≤ b17)) all0)
    refine own_by (T' := T25) (g' := (mkF m 137 #[.val (.int p0), .val (.int p1), .val (.int p2), .val (.int p3), .val (.int l1), .val (.int l2), .val (.int (((p3.toUInt32 >>> ((4 : Int32) &&& 31).toUInt32).toInt32) &&& (3 : Int32))), .val (.int a0_), .val (.int a1_), .val (.int a2_), .val (.int b0_), .val (.int b1_), .val (.int b2_), .val (.ref x_4), .val (.ref x_11), .unset, .unset, .unset] [(.ref b17)])) (fun _ kt_ => st25.trans kt_) ?_
    refine own_by (T' := T25) (g' := (mkF m 139 #[.val (.int p0), .val (.int p1), .val (.int p2), .val (.int p3), .val (.int l1), .val (.int l2), .val (.int (((p3.toUInt32 >>> ((4 : Int32) &&& 31).toUInt32).toInt32) &&& (3 : Int32))), .val (.int a0_), .val (.int a1_), .val (.int a2_), .val (.int b0_), .val (.int b1_), .val (.int b2_), .val (.ref x_4), .val (.ref x_11), .val (.ref b17), .unset, .unset] [])) (fun _ kt_ => XS.astore X25.here hx rfl (hb hby at_137) rfl rfl (l' := #[.val (.int p0), .val (.int p1), .val (.int p2), .val (.int p3), .val (.int l1), .val (.int l2), .val (.int (((p3.toUInt32 >>> ((4 : Int32) &&& 31).toUInt32).toInt32) &&& (3 : Int32))), .val (.int a0_), .val (.int a1_), .val (.int a2_), .val (.int b0_), .val (.int b1_), .val (.int b2_), .val (.ref x_4), .val (.ref x_11), .val (.ref b17), .unset, .unset]) rfl kt_) ?_
    refine own_by (T' := T25) (g' := (mkF m 141 #[.val (.int p0), .val (.int p1), .val (.int p2), .val (.int p3), .val (.int l1), .val (.int l2), .val (.int (((p3.toUInt32 >>> ((4 : Int32) &&& 31).toUInt32).toInt32) &&& (3 : Int32))), .val (.int a0_), .val (.int a1_), .val (.int a2_), .val (.int b0_), .val (.int b1_), .val (.int b2_), .val (.ref x_4), .val (.ref x_11), .val (.ref b17), .unset, .unset] [(.int (((p3.toUInt32 >>> ((4 : Int32) &&& 31).toUInt32).toInt32) &&& (3 : Int32)))])) (fun _ kt_ => XS.iload X25.here hx rfl (hb hby at_139) rfl kt_) ?_
    refine own_by (T' := T25) (g' := (mkF m 142 #[.val (.int p0), .val (.int p1), .val (.int p2), .val (.int p3), .val (.int l1), .val (.int l2), .val (.int (((p3.toUInt32 >>> ((4 : Int32) &&& 31).toUInt32).toInt32) &&& (3 : Int32))), .val (.int a0_), .val (.int a1_), .val (.int a2_), .val (.int b0_), .val (.int b1_), .val (.int b2_), .val (.ref x_4), .val (.ref x_11), .val (.ref b17), .unset, .unset] [(.int (1 : Int32)), (.int (((p3.toUInt32 >>> ((4 : Int32) &&& 31).toUInt32).toInt32) &&& (3 : Int32)))])) (fun _ kt_ => XS.iconst X25.here hx rfl (hb hby at_141) kt_) ?_
    by_cases hc29 : (((p3.toUInt32 >>> ((4 : Int32) &&& 31).toUInt32).toInt32) &&& (3 : Int32)) = (1 : Int32)
    · refine own_by (T' := T25) (g' := (mkF m 145 #[.val (.int p0), .val (.int p1), .val (.int p2), .val (.int p3), .val (.int l1), .val (.int l2), .val (.int (((p3.toUInt32 >>> ((4 : Int32) &&& 31).toUInt32).toInt32) &&& (3 : Int32))), .val (.int a0_), .val (.int a1_), .val (.int a2_), .val (.int b0_), .val (.int b1_), .val (.int b2_), .val (.ref x_4), .val (.ref x_11), .val (.ref b17), .unset, .unset] [])) (fun _ kt_ => XS.icmpNo X25.here hx rfl (hb hby at_142) rfl (XT.ii_ne_f hc29) kt_) ?_
      refine own_by (T' := T25) (g' := (mkF m 147 #[.val (.int p0), .val (.int p1), .val (.int p2), .val (.int p3), .val (.int l1), .val (.int l2), .val (.int (((p3.toUInt32 >>> ((4 : Int32) &&& 31).toUInt32).toInt32) &&& (3 : Int32))), .val (.int a0_), .val (.int a1_), .val (.int a2_), .val (.int b0_), .val (.int b1_), .val (.int b2_), .val (.ref x_4), .val (.ref x_11), .val (.ref b17), .unset, .unset] [(.ref b17)])) (fun _ kt_ => XS.aload X25.here hx rfl (hb hby at_145) rfl rfl kt_) ?_
      refine own_by (T' := T25) (g' := (mkF m 149 #[.val (.int p0), .val (.int p1), .val (.int p2), .val (.int p3), .val (.int l1), .val (.int l2), .val (.int (((p3.toUInt32 >>> ((4 : Int32) &&& 31).toUInt32).toInt32) &&& (3 : Int32))), .val (.int a0_), .val (.int a1_), .val (.int a2_), .val (.int b0_), .val (.int b1_), .val (.int b2_), .val (.ref x_4), .val (.ref x_11), .val (.ref b17), .unset, .unset] [(.ref x_4), (.ref b17)])) (fun _ kt_ => XS.aload X25.here hx rfl (hb hby at_147) rfl rfl kt_) ?_
      have f30 : Exa Z T25.heap x_4 "java/lang/String" := (f22.keep K25)
      have f32 : Exa Z T25.heap b17 "com/example/dependency_wiring/dependencywiring/BeanNameReference" := (A17.keep K25)
      obtain ⟨cq31, kq31, q31a, q31b, q31c⟩ := isOf hZ25 rfl f32
      obtain ⟨_, _, ⟨T31, L31, k31, n31⟩, -, X31, ⟨Lc31, hQ31, l31, y31, z31⟩, st31⟩ := X25.virtualBack hx (y := (⟨"com/example/dependency_wiring/dependencywiring/BeanNameReference", "equals", "(Ljava/lang/Object;)Z"⟩ : MethodName)) (z := (⟨"com/example/dependency_wiring/dependencywiring/BeanNameReference", "equals", "(Ljava/lang/Object;)Z"⟩ : MethodName)) hown25 (mvT hZ25 (hw _ (List.mem_of_getElem? (i := 56) rfl))) (mvT hZ25 (hw _ (List.mem_of_getElem? (i := 57) rfl))) (notFace_of_selects (args := #[]) (mvT hZ25 (hw _ (List.mem_of_getElem? (i := 59) rfl)))) (mvT hZ25 (hw _ (List.mem_of_getElem? (i := 59) rfl))) (mvT hZ25 (hw _ (List.mem_of_getElem? (i := 58) rfl))) (by decide) (backOf (W := 0) (rmBEqS l Z a0 hw [] zC GS b17 x_4 T25.heap n0 (by omega) oo27 f30) hZ25 (hw _ (List.mem_of_getElem? (i := 60) rfl)) (hw _ (List.mem_of_getElem? (i := 36) rfl)) (by decide) (by decide)) q31a q31c (g := (mkF m 149 #[.val (.int p0), .val (.int p1), .val (.int p2), .val (.int p3), .val (.int l1), .val (.int l2), .val (.int (((p3.toUInt32 >>> ((4 : Int32) &&& 31).toUInt32).toInt32) &&& (3 : Int32))), .val (.int a0_), .val (.int a1_), .val (.int a2_), .val (.int b0_), .val (.int b1_), .val (.int b2_), .val (.ref x_4), .val (.ref x_11), .val (.ref b17), .unset, .unset] [(.ref x_4), (.ref b17)])) rfl (by rw [hml]; rfl) (Steps.refl _) (argsL := [(.ref x_4)]) (rest := []) (lenOf own_pd_7 rfl) rfl (by show 2 * 0 + _ ≤ _; exact Nat.le_of_eq rfl) (hb hby at_149) (fun _ _ => ⟨rfl, rfl, (by decide : 9 + 0 ≤ _), (by decide : 57 + 0 ≤ _)⟩)
      dsimp only [Pt.U, Pt.locs, Pt.cells, Pt.slots] at X31 l31 y31 z31 st31 hQ31
      subst l31 y31 z31
      obtain ⟨rfl, N31q, e31⟩ := hQ31
      have N33 := Fr.app N26 N31q
      refine own_by (T' := T31) (g' := (mkF m 152 #[.val (.int p0), .val (.int p1), .val (.int p2), .val (.int p3), .val (.int l1), .val (.int l2), .val (.int (((p3.toUInt32 >>> ((4 : Int32) &&& 31).toUInt32).toInt32) &&& (3 : Int32))), .val (.int a0_), .val (.int a1_), .val (.int a2_), .val (.int b0_), .val (.int b1_), .val (.int b2_), .val (.ref x_4), .val (.ref x_11), .val (.ref b17), .unset, .unset] [(.int (0 : Int32))])) (fun _ kt_ => st31.trans kt_) ?_
      refine own_by (T' := T31) (g' := (mkF m 155 #[.val (.int p0), .val (.int p1), .val (.int p2), .val (.int p3), .val (.int l1), .val (.int l2), .val (.int (((p3.toUInt32 >>> ((4 : Int32) &&& 31).toUInt32).toInt32) &&& (3 : Int32))), .val (.int a0_), .val (.int a1_), .val (.int a2_), .val (.int b0_), .val (.int b1_), .val (.int b2_), .val (.ref x_4), .val (.ref x_11), .val (.ref b17), .unset, .unset] [])) (fun _ kt_ => XS.ifNo X31.here hx rfl (hb hby at_152) rfl (XT.i0_ne_f (by decide)) kt_) ?_
      refine own_by (T' := T31) (g' := (mkF m 156 #[.val (.int p0), .val (.int p1), .val (.int p2), .val (.int p3), .val (.int l1), .val (.int l2), .val (.int (((p3.toUInt32 >>> ((4 : Int32) &&& 31).toUInt32).toInt32) &&& (3 : Int32))), .val (.int a0_), .val (.int a1_), .val (.int a2_), .val (.int b0_), .val (.int b1_), .val (.int b2_), .val (.ref x_4), .val (.ref x_11), .val (.ref b17), .unset, .unset] [(.int (1 : Int32))])) (fun _ kt_ => XS.iconst X31.here hx rfl (hb hby at_155) kt_) ?_
      refine own_by (T' := T31) (g' := (mkF m 160 #[.val (.int p0), .val (.int p1), .val (.int p2), .val (.int p3), .val (.int l1), .val (.int l2), .val (.int (((p3.toUInt32 >>> ((4 : Int32) &&& 31).toUInt32).toInt32) &&& (3 : Int32))), .val (.int a0_), .val (.int a1_), .val (.int a2_), .val (.int b0_), .val (.int b1_), .val (.int b2_), .val (.ref x_4), .val (.ref x_11), .val (.ref b17), .unset, .unset] [(.int (1 : Int32))])) (fun _ kt_ => XS.goto X31.here hx rfl (pc0 := 156) (pc' := 160) rfl (hb hby at_156) (by decide) (by decide) kt_) ?_
      have hn34 : nar .boolean (1 : Int32) = (1 : Int32) := rfl
      obtain ⟨fs35, hr35, hrun35, hended35, hW35⟩ := X31.leaveW hS25 (by rw [e31]; omega) (v := some (.int (nar .boolean (1 : Int32)))) (fun h => by rw [Bd.returns] at h; cases h)
      refine ⟨_, _, retN X31 hx (t := .boolean) Bd.returns (by simp) (hb hby at_160) hr35, hrun35, hended35, _, _, rfl, ?_, hW35.1, hW35.2.1, hW35.2.2.1, hW35.2.2.2.mono (by decide) (by decide)⟩
      show Q_rm0 Z zC p0 p1 p2 p3 h0 n0 _ T31.heap _
      exact ⟨(congrArg (fun z => some (Value.int z)) hn34), N33⟩
    · refine own_by (T' := T25) (g' := (mkF m 161 #[.val (.int p0), .val (.int p1), .val (.int p2), .val (.int p3), .val (.int l1), .val (.int l2), .val (.int (((p3.toUInt32 >>> ((4 : Int32) &&& 31).toUInt32).toInt32) &&& (3 : Int32))), .val (.int a0_), .val (.int a1_), .val (.int a2_), .val (.int b0_), .val (.int b1_), .val (.int b2_), .val (.ref x_4), .val (.ref x_11), .val (.ref b17), .unset, .unset] [])) (fun _ kt_ => XS.icmpYes X25.here hx rfl (pc0 := 142) (pc' := 161) rfl (hb hby at_142) rfl (XT.ii_ne_t hc29) (by decide) (by decide) kt_) ?_
      refine own_by (T' := T25) (g' := (mkF m 163 #[.val (.int p0), .val (.int p1), .val (.int p2), .val (.int p3), .val (.int l1), .val (.int l2), .val (.int (((p3.toUInt32 >>> ((4 : Int32) &&& 31).toUInt32).toInt32) &&& (3 : Int32))), .val (.int a0_), .val (.int a1_), .val (.int a2_), .val (.int b0_), .val (.int b1_), .val (.int b2_), .val (.ref x_4), .val (.ref x_11), .val (.ref b17), .unset, .unset] [(.int (((p3.toUInt32 >>> ((4 : Int32) &&& 31).toUInt32).toInt32) &&& (3 : Int32)))])) (fun _ kt_ => XS.iload X25.here hx rfl (hb hby at_161) rfl kt_) ?_
      refine own_by (T' := T25) (g' := (mkF m 164 #[.val (.int p0), .val (.int p1), .val (.int p2), .val (.int p3), .val (.int l1), .val (.int l2), .val (.int (((p3.toUInt32 >>> ((4 : Int32) &&& 31).toUInt32).toInt32) &&& (3 : Int32))), .val (.int a0_), .val (.int a1_), .val (.int a2_), .val (.int b0_), .val (.int b1_), .val (.int b2_), .val (.ref x_4), .val (.ref x_11), .val (.ref b17), .unset, .unset] [(.int (2 : Int32)), (.int (((p3.toUInt32 >>> ((4 : Int32) &&& 31).toUInt32).toInt32) &&& (3 : Int32)))])) (fun _ kt_ => XS.iconst X25.here hx rfl (hb hby at_163) kt_) ?_
      by_cases hc36 : (((p3.toUInt32 >>> ((4 : Int32) &&& 31).toUInt32).toInt32) &&& (3 : Int32)) = (2 : Int32)
      · refine own_by (T' := T25) (g' := (mkF m 167 #[.val (.int p0), .val (.int p1), .val (.int p2), .val (.int p3), .val (.int l1), .val (.int l2), .val (.int (((p3.toUInt32 >>> ((4 : Int32) &&& 31).toUInt32).toInt32) &&& (3 : Int32))), .val (.int a0_), .val (.int a1_), .val (.int a2_), .val (.int b0_), .val (.int b1_), .val (.int b2_), .val (.ref x_4), .val (.ref x_11), .val (.ref b17), .unset, .unset] [])) (fun _ kt_ => XS.icmpNo X25.here hx rfl (hb hby at_164) rfl (XT.ii_ne_f hc36) kt_) ?_
        refine own_by (T' := T25) (g' := (mkF m 169 #[.val (.int p0), .val (.int p1), .val (.int p2), .val (.int p3), .val (.int l1), .val (.int l2), .val (.int (((p3.toUInt32 >>> ((4 : Int32) &&& 31).toUInt32).toInt32) &&& (3 : Int32))), .val (.int a0_), .val (.int a1_), .val (.int a2_), .val (.int b0_), .val (.int b1_), .val (.int b2_), .val (.ref x_4), .val (.ref x_11), .val (.ref b17), .unset, .unset] [(.ref b17)])) (fun _ kt_ => XS.aload X25.here hx rfl (hb hby at_167) rfl rfl kt_) ?_
        refine own_by (T' := T25) (g' := (mkF m 170 #[.val (.int p0), .val (.int p1), .val (.int p2), .val (.int p3), .val (.int l1), .val (.int l2), .val (.int (((p3.toUInt32 >>> ((4 : Int32) &&& 31).toUInt32).toInt32) &&& (3 : Int32))), .val (.int a0_), .val (.int a1_), .val (.int a2_), .val (.int b0_), .val (.int b1_), .val (.int b2_), .val (.ref x_4), .val (.ref x_11), .val (.ref b17), .unset, .unset] [.null, (.ref b17)])) (fun _ kt_ => XS.aconstNull X25.here hx rfl (hb hby at_169) kt_) ?_
        have f38 : Exa Z T25.heap b17 "com/example/dependency_wiring/dependencywiring/BeanNameReference" := (A17.keep K25)
        obtain ⟨cq37, kq37, q37a, q37b, q37c⟩ := isOf hZ25 rfl f38
        obtain ⟨_, _, ⟨T37, L37, k37, n37⟩, -, X37, ⟨Lc37, hQ37, l37, y37, z37⟩, st37⟩ := X25.virtualBack hx (y := (⟨"com/example/dependency_wiring/dependencywiring/BeanNameReference", "equals", "(Ljava/lang/Object;)Z"⟩ : MethodName)) (z := (⟨"com/example/dependency_wiring/dependencywiring/BeanNameReference", "equals", "(Ljava/lang/Object;)Z"⟩ : MethodName)) hown25 (mvT hZ25 (hw _ (List.mem_of_getElem? (i := 56) rfl))) (mvT hZ25 (hw _ (List.mem_of_getElem? (i := 57) rfl))) (notFace_of_selects (args := #[]) (mvT hZ25 (hw _ (List.mem_of_getElem? (i := 59) rfl)))) (mvT hZ25 (hw _ (List.mem_of_getElem? (i := 59) rfl))) (mvT hZ25 (hw _ (List.mem_of_getElem? (i := 58) rfl))) (by decide) (backOf (W := 0) (rmBEqN l Z a0 hw [] zC GS b17 T25.heap n0 (by omega) oo27 ) hZ25 (hw _ (List.mem_of_getElem? (i := 60) rfl)) (hw _ (List.mem_of_getElem? (i := 36) rfl)) (by decide) (by decide)) q37a q37c (g := (mkF m 170 #[.val (.int p0), .val (.int p1), .val (.int p2), .val (.int p3), .val (.int l1), .val (.int l2), .val (.int (((p3.toUInt32 >>> ((4 : Int32) &&& 31).toUInt32).toInt32) &&& (3 : Int32))), .val (.int a0_), .val (.int a1_), .val (.int a2_), .val (.int b0_), .val (.int b1_), .val (.int b2_), .val (.ref x_4), .val (.ref x_11), .val (.ref b17), .unset, .unset] [.null, (.ref b17)])) rfl (by rw [hml]; rfl) (Steps.refl _) (argsL := [.null]) (rest := []) (lenOf own_pd_7 rfl) rfl (by show 2 * 0 + _ ≤ _; exact Nat.le_of_eq rfl) (hb hby at_170) (fun _ _ => ⟨rfl, rfl, (by decide : 9 + 0 ≤ _), (by decide : 57 + 0 ≤ _)⟩)
        dsimp only [Pt.U, Pt.locs, Pt.cells, Pt.slots] at X37 l37 y37 z37 st37 hQ37
        subst l37 y37 z37
        obtain ⟨rfl, N37q, e37⟩ := hQ37
        have N39 := Fr.app N26 N37q
        refine own_by (T' := T37) (g' := (mkF m 173 #[.val (.int p0), .val (.int p1), .val (.int p2), .val (.int p3), .val (.int l1), .val (.int l2), .val (.int (((p3.toUInt32 >>> ((4 : Int32) &&& 31).toUInt32).toInt32) &&& (3 : Int32))), .val (.int a0_), .val (.int a1_), .val (.int a2_), .val (.int b0_), .val (.int b1_), .val (.int b2_), .val (.ref x_4), .val (.ref x_11), .val (.ref b17), .unset, .unset] [(.int (0 : Int32))])) (fun _ kt_ => st37.trans kt_) ?_
        refine own_by (T' := T37) (g' := (mkF m 176 #[.val (.int p0), .val (.int p1), .val (.int p2), .val (.int p3), .val (.int l1), .val (.int l2), .val (.int (((p3.toUInt32 >>> ((4 : Int32) &&& 31).toUInt32).toInt32) &&& (3 : Int32))), .val (.int a0_), .val (.int a1_), .val (.int a2_), .val (.int b0_), .val (.int b1_), .val (.int b2_), .val (.ref x_4), .val (.ref x_11), .val (.ref b17), .unset, .unset] [])) (fun _ kt_ => XS.ifNo X37.here hx rfl (hb hby at_173) rfl (XT.i0_ne_f (by decide)) kt_) ?_
        refine own_by (T' := T37) (g' := (mkF m 178 #[.val (.int p0), .val (.int p1), .val (.int p2), .val (.int p3), .val (.int l1), .val (.int l2), .val (.int (((p3.toUInt32 >>> ((4 : Int32) &&& 31).toUInt32).toInt32) &&& (3 : Int32))), .val (.int a0_), .val (.int a1_), .val (.int a2_), .val (.int b0_), .val (.int b1_), .val (.int b2_), .val (.ref x_4), .val (.ref x_11), .val (.ref b17), .unset, .unset] [(.ref b17)])) (fun _ kt_ => XS.aload X37.here hx rfl (hb hby at_176) rfl rfl kt_) ?_
        refine own_by (T' := T37) (g' := (mkF m 180 #[.val (.int p0), .val (.int p1), .val (.int p2), .val (.int p3), .val (.int l1), .val (.int l2), .val (.int (((p3.toUInt32 >>> ((4 : Int32) &&& 31).toUInt32).toInt32) &&& (3 : Int32))), .val (.int a0_), .val (.int a1_), .val (.int a2_), .val (.int b0_), .val (.int b1_), .val (.int b2_), .val (.ref x_4), .val (.ref x_11), .val (.ref b17), .unset, .unset] [(.ref b17), (.ref b17)])) (fun _ kt_ => XS.aload X37.here hx rfl (hb hby at_178) rfl rfl kt_) ?_
        have f40 : Exa Z T25.heap x_4 "java/lang/String" := (f22.keep K25)
        obtain ⟨cq41, kq41, q41a, q41b, q41c⟩ := isOf hZ25 e37 f38
        obtain ⟨_, _, ⟨T41, L41, k41, n41⟩, -, X41, ⟨Lc41, hQ41, l41, y41, z41⟩, st41⟩ := X37.virtualBack hx (y := (⟨"com/example/dependency_wiring/dependencywiring/BeanNameReference", "equals", "(Ljava/lang/Object;)Z"⟩ : MethodName)) (z := (⟨"com/example/dependency_wiring/dependencywiring/BeanNameReference", "equals", "(Ljava/lang/Object;)Z"⟩ : MethodName)) hown25 (mvT hZ25 (hw _ (List.mem_of_getElem? (i := 56) rfl))) (mvT hZ25 (hw _ (List.mem_of_getElem? (i := 57) rfl))) (notFace_of_selects (args := #[]) (mvT hZ25 (hw _ (List.mem_of_getElem? (i := 59) rfl)))) (mvT hZ25 (hw _ (List.mem_of_getElem? (i := 59) rfl))) (mvT hZ25 (hw _ (List.mem_of_getElem? (i := 58) rfl))) (by decide) (backOf (W := 0) (rmBEqM l Z a0 hw [] zC GS b17 x_4 T25.heap n0 (by omega) oo27 f38 p25_0 f40) hZ25 (hw _ (List.mem_of_getElem? (i := 60) rfl)) (hw _ (List.mem_of_getElem? (i := 36) rfl)) (by decide) (by decide)) q41a q41c (g := (mkF m 180 #[.val (.int p0), .val (.int p1), .val (.int p2), .val (.int p3), .val (.int l1), .val (.int l2), .val (.int (((p3.toUInt32 >>> ((4 : Int32) &&& 31).toUInt32).toInt32) &&& (3 : Int32))), .val (.int a0_), .val (.int a1_), .val (.int a2_), .val (.int b0_), .val (.int b1_), .val (.int b2_), .val (.ref x_4), .val (.ref x_11), .val (.ref b17), .unset, .unset] [(.ref b17), (.ref b17)])) rfl (by rw [hml]; rfl) (Steps.refl _) (argsL := [(.ref b17)]) (rest := []) (lenOf own_pd_7 rfl) rfl (by show 2 * 0 + _ ≤ _; exact Nat.le_of_eq rfl) (hb hby at_180) (fun _ _ => ⟨rfl, e37, (by decide : 9 + 0 ≤ _), (by decide : 57 + 0 ≤ _)⟩)
        dsimp only [Pt.U, Pt.locs, Pt.cells, Pt.slots] at X41 l41 y41 z41 st41 hQ41
        subst l41 y41 z41
        obtain ⟨rfl, N41q, e41⟩ := hQ41
        have N42 := Fr.app N39 N41q
        refine own_by (T' := T41) (g' := (mkF m 183 #[.val (.int p0), .val (.int p1), .val (.int p2), .val (.int p3), .val (.int l1), .val (.int l2), .val (.int (((p3.toUInt32 >>> ((4 : Int32) &&& 31).toUInt32).toInt32) &&& (3 : Int32))), .val (.int a0_), .val (.int a1_), .val (.int a2_), .val (.int b0_), .val (.int b1_), .val (.int b2_), .val (.ref x_4), .val (.ref x_11), .val (.ref b17), .unset, .unset] [(.int (1 : Int32))])) (fun _ kt_ => st41.trans kt_) ?_
        refine own_by (T' := T41) (g' := (mkF m 186 #[.val (.int p0), .val (.int p1), .val (.int p2), .val (.int p3), .val (.int l1), .val (.int l2), .val (.int (((p3.toUInt32 >>> ((4 : Int32) &&& 31).toUInt32).toInt32) &&& (3 : Int32))), .val (.int a0_), .val (.int a1_), .val (.int a2_), .val (.int b0_), .val (.int b1_), .val (.int b2_), .val (.ref x_4), .val (.ref x_11), .val (.ref b17), .unset, .unset] [])) (fun _ kt_ => XS.ifNo X41.here hx rfl (hb hby at_183) rfl (XT.i0_eq_f (by decide)) kt_) ?_
        refine own_by (T' := T41) (g' := (mkF m 187 #[.val (.int p0), .val (.int p1), .val (.int p2), .val (.int p3), .val (.int l1), .val (.int l2), .val (.int (((p3.toUInt32 >>> ((4 : Int32) &&& 31).toUInt32).toInt32) &&& (3 : Int32))), .val (.int a0_), .val (.int a1_), .val (.int a2_), .val (.int b0_), .val (.int b1_), .val (.int b2_), .val (.ref x_4), .val (.ref x_11), .val (.ref b17), .unset, .unset] [(.int (1 : Int32))])) (fun _ kt_ => XS.iconst X41.here hx rfl (hb hby at_186) kt_) ?_
        refine own_by (T' := T41) (g' := (mkF m 191 #[.val (.int p0), .val (.int p1), .val (.int p2), .val (.int p3), .val (.int l1), .val (.int l2), .val (.int (((p3.toUInt32 >>> ((4 : Int32) &&& 31).toUInt32).toInt32) &&& (3 : Int32))), .val (.int a0_), .val (.int a1_), .val (.int a2_), .val (.int b0_), .val (.int b1_), .val (.int b2_), .val (.ref x_4), .val (.ref x_11), .val (.ref b17), .unset, .unset] [(.int (1 : Int32))])) (fun _ kt_ => XS.goto X41.here hx rfl (pc0 := 187) (pc' := 191) rfl (hb hby at_187) (by decide) (by decide) kt_) ?_
        have hn43 : nar .boolean (1 : Int32) = (1 : Int32) := rfl
        obtain ⟨fs44, hr44, hrun44, hended44, hW44⟩ := X41.leaveW hS25 (by rw [e41]; omega) (v := some (.int (nar .boolean (1 : Int32)))) (fun h => by rw [Bd.returns] at h; cases h)
        refine ⟨_, _, retN X41 hx (t := .boolean) Bd.returns (by simp) (hb hby at_191) hr44, hrun44, hended44, _, _, rfl, ?_, hW44.1, hW44.2.1, hW44.2.2.1, hW44.2.2.2.mono (by decide) (by decide)⟩
        show Q_rm0 Z zC p0 p1 p2 p3 h0 n0 _ T41.heap _
        exact ⟨(congrArg (fun z => some (Value.int z)) hn43), N42⟩
      · refine own_by (T' := T25) (g' := (mkF m 192 #[.val (.int p0), .val (.int p1), .val (.int p2), .val (.int p3), .val (.int l1), .val (.int l2), .val (.int (((p3.toUInt32 >>> ((4 : Int32) &&& 31).toUInt32).toInt32) &&& (3 : Int32))), .val (.int a0_), .val (.int a1_), .val (.int a2_), .val (.int b0_), .val (.int b1_), .val (.int b2_), .val (.ref x_4), .val (.ref x_11), .val (.ref b17), .unset, .unset] [])) (fun _ kt_ => XS.icmpYes X25.here hx rfl (pc0 := 164) (pc' := 192) rfl (hb hby at_164) rfl (XT.ii_ne_t hc36) (by decide) (by decide) kt_) ?_
        have J45 : ∀ (T45 : State) (lo45 : List Loc) (X45 : Stand p l e room_1 (s.setVm T25.vm) m #[(.int p0), (.int p1), (.int p2), (.int p3)] below meth c T45 lo45 9 57) (e45 : T45.heap = T25.heap) (N45 : Fr n0 lo45) (sm : Int32), sm = (eqF l1 a0_ a1_ a2_ l2 b0_ b1_ b2_) → OGoal p e below (fun oo_ UV_ => ∃ vv_ LL_, oo_ = .returned vv_ ∧ Q_rm0 Z zC p0 p1 p2 p3 h0 n0 vv_ UV_.heap LL_ ∧ ReturnedEndW s oo_ UV_ LL_ 12 94) T45 (mkF m 237 #[.val (.int p0), .val (.int p1), .val (.int p2), .val (.int p3), .val (.int l1), .val (.int l2), .val (.int (((p3.toUInt32 >>> ((4 : Int32) &&& 31).toUInt32).toInt32) &&& (3 : Int32))), .val (.int a0_), .val (.int a1_), .val (.int a2_), .val (.int b0_), .val (.int b1_), .val (.int b2_), .val (.ref x_4), .val (.ref x_11), .val (.ref b17), .unset, .unset] [(.int sm)]) := by
          intro T45 lo45 X45 e45 N45 sm  hj46
          refine own_by (T' := T45) (g' := (mkF m 239 #[.val (.int p0), .val (.int p1), .val (.int p2), .val (.int p3), .val (.int l1), .val (.int l2), .val (.int (((p3.toUInt32 >>> ((4 : Int32) &&& 31).toUInt32).toInt32) &&& (3 : Int32))), .val (.int a0_), .val (.int a1_), .val (.int a2_), .val (.int b0_), .val (.int b1_), .val (.int b2_), .val (.ref x_4), .val (.ref x_11), .val (.ref b17), .val (.int sm), .unset] [])) (fun _ kt_ => XS.istore X45.here hx rfl (hb hby at_237) rfl (l' := #[.val (.int p0), .val (.int p1), .val (.int p2), .val (.int p3), .val (.int l1), .val (.int l2), .val (.int (((p3.toUInt32 >>> ((4 : Int32) &&& 31).toUInt32).toInt32) &&& (3 : Int32))), .val (.int a0_), .val (.int a1_), .val (.int a2_), .val (.int b0_), .val (.int b1_), .val (.int b2_), .val (.ref x_4), .val (.ref x_11), .val (.ref b17), .val (.int sm), .unset]) rfl kt_) ?_
          obtain ⟨T47, h47, X47, e47, E47, A47, D47, -, st47⟩ := newO X45 hx hZ25 hown25 (hw _ (List.mem_of_getElem? (i := 34) rfl)) (hw _ (List.mem_of_getElem? (i := 35) rfl)) (hw _ (List.mem_of_getElem? (i := 36) rfl)) e45 (g := (mkF m 239 #[.val (.int p0), .val (.int p1), .val (.int p2), .val (.int p3), .val (.int l1), .val (.int l2), .val (.int (((p3.toUInt32 >>> ((4 : Int32) &&& 31).toUInt32).toInt32) &&& (3 : Int32))), .val (.int a0_), .val (.int a1_), .val (.int a2_), .val (.int b0_), .val (.int b1_), .val (.int b2_), .val (.ref x_4), .val (.ref x_11), .val (.ref b17), .val (.int sm), .unset] [])) rfl (hb hby at_239) (by decide) (by decide)
          obtain ⟨b47, g47⟩ : ∃ z, z = T25.heap.size := ⟨_, rfl⟩
          rw [← g47] at A47 D47 st47
          have K48 : Keep T25.heap h47 [] := own_kext E47
          have zzK48 : T25.heap.size ≤ h47.size := K48.1
          have oo49 : Old Z n0 h47 := oo27.keep K48 all0
          have kt50 : Keep h0 h47 [] := kt28.trans K48 all0
          have lab47 : b47 < h47.size := A47.lt
          have f51 : Fld Z h47 b47 "com/example/dependency_wiring/dependencywiring/BeanNameReference" "beanName" "Ljava/lang/String;" .null := D47 (Or.inr (hw _ (List.mem_of_getElem? (i := 55) rfl))) (ty := (.object "java/lang/String")) (by decide)
          refine own_by (T' := T47) (g' := (mkF m 242 #[.val (.int p0), .val (.int p1), .val (.int p2), .val (.int p3), .val (.int l1), .val (.int l2), .val (.int (((p3.toUInt32 >>> ((4 : Int32) &&& 31).toUInt32).toInt32) &&& (3 : Int32))), .val (.int a0_), .val (.int a1_), .val (.int a2_), .val (.int b0_), .val (.int b1_), .val (.int b2_), .val (.ref x_4), .val (.ref x_11), .val (.ref b17), .val (.int sm), .unset] [(.ref b47)])) st47 ?_
          refine own_by (T' := T47) (g' := (mkF m 243 #[.val (.int p0), .val (.int p1), .val (.int p2), .val (.int p3), .val (.int l1), .val (.int l2), .val (.int (((p3.toUInt32 >>> ((4 : Int32) &&& 31).toUInt32).toInt32) &&& (3 : Int32))), .val (.int a0_), .val (.int a1_), .val (.int a2_), .val (.int b0_), .val (.int b1_), .val (.int b2_), .val (.ref x_4), .val (.ref x_11), .val (.ref b17), .val (.int sm), .unset] [(.ref b47), (.ref b47)])) (fun _ kt_ => XS.dup X47.here hx rfl (hb hby at_242) rfl rfl kt_) ?_
          refine own_by (T' := T47) (g' := (mkF m 245 #[.val (.int p0), .val (.int p1), .val (.int p2), .val (.int p3), .val (.int l1), .val (.int l2), .val (.int (((p3.toUInt32 >>> ((4 : Int32) &&& 31).toUInt32).toInt32) &&& (3 : Int32))), .val (.int a0_), .val (.int a1_), .val (.int a2_), .val (.int b0_), .val (.int b1_), .val (.int b2_), .val (.ref x_4), .val (.ref x_11), .val (.ref b17), .val (.int sm), .unset] [(.ref x_11), (.ref b47), (.ref b47)])) (fun _ kt_ => XS.aload X47.here hx rfl (hb hby at_243) rfl rfl kt_) ?_
          have f52 : Exa Z h47 x_11 "java/lang/String" := (((p10_2.keep K18).keep K25).keep K48)
          have la53 : @LT.lt Nat instLTNat x_11 T10.heap.size := p10_2.lt
          have ne54 : @Ne Nat x_11 b17 := by omega
          have f55 : Fld Z h47 x_11 "java/lang/String" "value" "[B" (.ref t_12) := (((p10_3.keep K18 nin0).keep K25 (ninS ne54 nin0)).keep K48 nin0)
          have la56 : @LT.lt Nat instLTNat t_12 T10.heap.size := p10_5.lt
          have ne57 : @Ne Nat t_12 b17 := by omega
          have f58 : Arv Z h47 t_12 kB_13 .byte l2 (bF l2 b0_ b1_ b2_) (.int (0 : Int32)) := (((p10_5.keep K18 nin0).keep K25 (ninS ne57 nin0)).keep K48 nin0)
          obtain ⟨_, _, ⟨T59, L59, k59, n59⟩, -, Xw59, hSw59, hGw59, ⟨Lc59, hQ59, l59, y59, z59⟩, st59⟩ := X47.specialBackS hx (y := (⟨"com/example/dependency_wiring/dependencywiring/BeanNameReference", "<init>", "(Ljava/lang/String;)V"⟩ : MethodName)) rfl hown25 (mvT hZ25 (hw _ (List.mem_of_getElem? (i := 37) rfl))) (mvT hZ25 (hw _ (List.mem_of_getElem? (i := 38) rfl))) (mvT hZ25 (hw _ (List.mem_of_getElem? (i := 39) rfl))) (by decide) (backOfS (W := 1) (rmBIG l Z a0 hw [] zC GS b47 x_11 t_12 kB_13 l2 b0_ b1_ b2_ h47 n0 (by omega) oo49 A47 (by omega) f52 f51 f55 f58 hl2) hZ25 (hw _ (List.mem_of_getElem? (i := 39) rfl)) (hw _ (List.mem_of_getElem? (i := 36) rfl)) (by decide) (by decide)) (g := (mkF m 245 #[.val (.int p0), .val (.int p1), .val (.int p2), .val (.int p3), .val (.int l1), .val (.int l2), .val (.int (((p3.toUInt32 >>> ((4 : Int32) &&& 31).toUInt32).toInt32) &&& (3 : Int32))), .val (.int a0_), .val (.int a1_), .val (.int a2_), .val (.int b0_), .val (.int b1_), .val (.int b2_), .val (.ref x_4), .val (.ref x_11), .val (.ref b17), .val (.int sm), .unset] [(.ref x_11), (.ref b47), (.ref b47)])) rfl (by rw [hml]; rfl) (Steps.refl _) (a := b47) (argsL := [(.ref x_11)]) (rest := [(.ref b47)]) (lenOf own_pd_10 rfl) rfl (by show 2 * 0 + _ ≤ _; exact Nat.le_of_eq rfl) (hb hby at_245) (fun _ _ => ⟨rfl, e47, (by decide : 10 + 2 ≤ _), (by decide : 58 + 36 ≤ _)⟩)
          dsimp only [Pt.U, Pt.locs, Pt.cells, Pt.slots] at Xw59 hSw59 hGw59 l59 y59 z59 st59 hQ59
          subst l59 y59 z59
          obtain ⟨X59, hS59, hZ59, hown59⟩ := rebS hS25 (by rw [e47]; omega) Xw59 hSw59 hGw59 hZ25 hown25
          obtain ⟨rfl, N59q, K59, p59_0⟩ := hQ59
          have N60 := Fr.app N45 N59q
          have zzK59 : h47.size ≤ T59.heap.size := K59.1
          have oo61 : Old Z n0 T59.heap := oo49.keep K59 (allS (by omega : n0 ≤ b47) all0)
          have kt62 : Keep h0 T59.heap [] := kt50.trans K59 (allS (Or.inr (by omega : h0.size ≤ b47)) all0)
          refine own_by (T' := T59) (g' := (mkF m 248 #[.val (.int p0), .val (.int p1), .val (.int p2), .val (.int p3), .val (.int l1), .val (.int l2), .val (.int (((p3.toUInt32 >>> ((4 : Int32) &&& 31).toUInt32).toInt32) &&& (3 : Int32))), .val (.int a0_), .val (.int a1_), .val (.int a2_), .val (.int b0_), .val (.int b1_), .val (.int b2_), .val (.ref x_4), .val (.ref x_11), .val (.ref b17), .val (.int sm), .unset] [(.ref b47)])) (fun _ kt_ => st59.trans kt_) ?_
          refine own_by (T' := T59) (g' := (mkF m 250 #[.val (.int p0), .val (.int p1), .val (.int p2), .val (.int p3), .val (.int l1), .val (.int l2), .val (.int (((p3.toUInt32 >>> ((4 : Int32) &&& 31).toUInt32).toInt32) &&& (3 : Int32))), .val (.int a0_), .val (.int a1_), .val (.int a2_), .val (.int b0_), .val (.int b1_), .val (.int b2_), .val (.ref x_4), .val (.ref x_11), .val (.ref b17), .val (.int sm), .val (.ref b47)] [])) (fun _ kt_ => XS.astore X59.here hx rfl (hb hby at_248) rfl rfl (l' := #[.val (.int p0), .val (.int p1), .val (.int p2), .val (.int p3), .val (.int l1), .val (.int l2), .val (.int (((p3.toUInt32 >>> ((4 : Int32) &&& 31).toUInt32).toInt32) &&& (3 : Int32))), .val (.int a0_), .val (.int a1_), .val (.int a2_), .val (.int b0_), .val (.int b1_), .val (.int b2_), .val (.ref x_4), .val (.ref x_11), .val (.ref b17), .val (.int sm), .val (.ref b47)]) rfl kt_) ?_
          refine own_by (T' := T59) (g' := (mkF m 252 #[.val (.int p0), .val (.int p1), .val (.int p2), .val (.int p3), .val (.int l1), .val (.int l2), .val (.int (((p3.toUInt32 >>> ((4 : Int32) &&& 31).toUInt32).toInt32) &&& (3 : Int32))), .val (.int a0_), .val (.int a1_), .val (.int a2_), .val (.int b0_), .val (.int b1_), .val (.int b2_), .val (.ref x_4), .val (.ref x_11), .val (.ref b17), .val (.int sm), .val (.ref b47)] [(.ref b17)])) (fun _ kt_ => XS.aload X59.here hx rfl (hb hby at_250) rfl rfl kt_) ?_
          refine own_by (T' := T59) (g' := (mkF m 254 #[.val (.int p0), .val (.int p1), .val (.int p2), .val (.int p3), .val (.int l1), .val (.int l2), .val (.int (((p3.toUInt32 >>> ((4 : Int32) &&& 31).toUInt32).toInt32) &&& (3 : Int32))), .val (.int a0_), .val (.int a1_), .val (.int a2_), .val (.int b0_), .val (.int b1_), .val (.int b2_), .val (.ref x_4), .val (.ref x_11), .val (.ref b17), .val (.int sm), .val (.ref b47)] [(.ref b47), (.ref b17)])) (fun _ kt_ => XS.aload X59.here hx rfl (hb hby at_252) rfl rfl kt_) ?_
          have f63 : Exa Z T59.heap b47 "com/example/dependency_wiring/dependencywiring/BeanNameReference" := (A47.keep K59)
          have ne64 : @Ne Nat b17 b47 := by omega
          have f65 : Fld Z T59.heap b17 "com/example/dependency_wiring/dependencywiring/BeanNameReference" "beanName" "Ljava/lang/String;" (.ref x_4) := ((p25_0.keep K48 nin0).keep K59 (ninS ne64 nin0))
          have la66 : @LT.lt Nat instLTNat x_4 T3.heap.size := p3_2.lt
          have ne67 : @Ne Nat x_11 x_4 := by omega
          have f68 : Exa Z T59.heap x_11 "java/lang/String" := (f52.keep K59)
          have f69 : Exa Z T59.heap x_4 "java/lang/String" := (((f22.keep K25).keep K48).keep K59)
          have ne70 : @Ne Nat x_11 b47 := by omega
          have f71 : Fld Z T59.heap x_11 "java/lang/String" "coder" "B" (.int (0 : Int32)) := ((((p10_4.keep K18 nin0).keep K25 (ninS ne54 nin0)).keep K48 nin0).keep K59 (ninS ne70 nin0))
          have ne72 : @Ne Nat x_4 b17 := by omega
          have ne73 : @Ne Nat x_4 b47 := by omega
          have f74 : Fld Z T59.heap x_4 "java/lang/String" "coder" "B" (.int (0 : Int32)) := (((((p3_4.keep K10 nin0).keep K18 nin0).keep K25 (ninS ne72 nin0)).keep K48 nin0).keep K59 (ninS ne73 nin0))
          have f75 : Fld Z T59.heap x_11 "java/lang/String" "value" "[B" (.ref t_12) := (f55.keep K59 (ninS ne70 nin0))
          have f76 : Fld Z T59.heap x_4 "java/lang/String" "value" "[B" (.ref t_5) := (((f23.keep K25 (ninS ne72 nin0)).keep K48 nin0).keep K59 (ninS ne73 nin0))
          have ne77 : @Ne Nat t_12 b47 := by omega
          have f78 : Arv Z T59.heap t_12 kB_13 .byte l2 (bF l2 b0_ b1_ b2_) (.int (0 : Int32)) := (f58.keep K59 (ninS ne77 nin0))
          have la79 : @LT.lt Nat instLTNat t_5 T3.heap.size := p3_5.lt
          have ne80 : @Ne Nat t_5 b17 := by omega
          have ne81 : @Ne Nat t_5 b47 := by omega
          have f82 : Arv Z T59.heap t_5 kB_6 .byte l1 (bF l1 a0_ a1_ a2_) (.int (0 : Int32)) := (((f24.keep K25 (ninS ne80 nin0)).keep K48 nin0).keep K59 (ninS ne81 nin0))
          have f84 : Exa Z T59.heap b17 "com/example/dependency_wiring/dependencywiring/BeanNameReference" := (((A17.keep K25).keep K48).keep K59)
          obtain ⟨cq83, kq83, q83a, q83b, q83c⟩ := isOf hZ59 rfl f84
          obtain ⟨_, _, ⟨T83, L83, k83, n83⟩, -, X83, ⟨Lc83, hQ83, l83, y83, z83⟩, st83⟩ := X59.virtualBack hx (y := (⟨"com/example/dependency_wiring/dependencywiring/BeanNameReference", "equals", "(Ljava/lang/Object;)Z"⟩ : MethodName)) (z := (⟨"com/example/dependency_wiring/dependencywiring/BeanNameReference", "equals", "(Ljava/lang/Object;)Z"⟩ : MethodName)) hown59 (mvT hZ59 (hw _ (List.mem_of_getElem? (i := 56) rfl))) (mvT hZ59 (hw _ (List.mem_of_getElem? (i := 57) rfl))) (notFace_of_selects (args := #[]) (mvT hZ59 (hw _ (List.mem_of_getElem? (i := 59) rfl)))) (mvT hZ59 (hw _ (List.mem_of_getElem? (i := 59) rfl))) (mvT hZ59 (hw _ (List.mem_of_getElem? (i := 58) rfl))) (by decide) (backOf (W := 0) (rmBEqG l Z a0 hw [] zC GS b17 b47 x_11 x_4 t_12 t_5 kB_13 kB_6 l2 b0_ b1_ b2_ l1 a0_ a1_ a2_ T59.heap n0 (by omega) oo61 f63 p59_0 f65 ne67 f68 f69 f71 f74 f75 f76 f78 f82 hl2 hl1) hZ59 (hw _ (List.mem_of_getElem? (i := 60) rfl)) (hw _ (List.mem_of_getElem? (i := 36) rfl)) (by decide) (by decide)) q83a q83c (g := (mkF m 254 #[.val (.int p0), .val (.int p1), .val (.int p2), .val (.int p3), .val (.int l1), .val (.int l2), .val (.int (((p3.toUInt32 >>> ((4 : Int32) &&& 31).toUInt32).toInt32) &&& (3 : Int32))), .val (.int a0_), .val (.int a1_), .val (.int a2_), .val (.int b0_), .val (.int b1_), .val (.int b2_), .val (.ref x_4), .val (.ref x_11), .val (.ref b17), .val (.int sm), .val (.ref b47)] [(.ref b47), (.ref b17)])) rfl (by rw [hml]; rfl) (Steps.refl _) (argsL := [(.ref b47)]) (rest := []) (lenOf own_pd_7 rfl) rfl (by show 2 * 0 + _ ≤ _; exact Nat.le_of_eq rfl) (hb hby at_254) (fun _ _ => ⟨rfl, rfl, (by decide : 12 + 0 ≤ _), (by decide : 94 + 0 ≤ _)⟩)
          dsimp only [Pt.U, Pt.locs, Pt.cells, Pt.slots] at X83 l83 y83 z83 st83 hQ83
          subst l83 y83 z83
          obtain ⟨rfl, N83q, e83⟩ := hQ83
          have N85 := Fr.app N60 N83q
          refine own_by (T' := T83) (g' := (mkF m 257 #[.val (.int p0), .val (.int p1), .val (.int p2), .val (.int p3), .val (.int l1), .val (.int l2), .val (.int (((p3.toUInt32 >>> ((4 : Int32) &&& 31).toUInt32).toInt32) &&& (3 : Int32))), .val (.int a0_), .val (.int a1_), .val (.int a2_), .val (.int b0_), .val (.int b1_), .val (.int b2_), .val (.ref x_4), .val (.ref x_11), .val (.ref b17), .val (.int sm), .val (.ref b47)] [(.int (eqF l2 b0_ b1_ b2_ l1 a0_ a1_ a2_))])) (fun _ kt_ => st83.trans kt_) ?_
          refine own_by (T' := T83) (g' := (mkF m 259 #[.val (.int p0), .val (.int p1), .val (.int p2), .val (.int p3), .val (.int l1), .val (.int l2), .val (.int (((p3.toUInt32 >>> ((4 : Int32) &&& 31).toUInt32).toInt32) &&& (3 : Int32))), .val (.int a0_), .val (.int a1_), .val (.int a2_), .val (.int b0_), .val (.int b1_), .val (.int b2_), .val (.ref x_4), .val (.ref x_11), .val (.ref b17), .val (.int sm), .val (.ref b47)] [(.int sm), (.int (eqF l2 b0_ b1_ b2_ l1 a0_ a1_ a2_))])) (fun _ kt_ => XS.iload X83.here hx rfl (hb hby at_257) rfl kt_) ?_
          refine own_by (T' := T83) (g' := (mkF m 262 #[.val (.int p0), .val (.int p1), .val (.int p2), .val (.int p3), .val (.int l1), .val (.int l2), .val (.int (((p3.toUInt32 >>> ((4 : Int32) &&& 31).toUInt32).toInt32) &&& (3 : Int32))), .val (.int a0_), .val (.int a1_), .val (.int a2_), .val (.int b0_), .val (.int b1_), .val (.int b2_), .val (.ref x_4), .val (.ref x_11), .val (.ref b17), .val (.int sm), .val (.ref b47)] [])) (fun _ kt_ => XS.icmpNo X83.here hx rfl (hb hby at_259) rfl (XT.ii_ne_f (by rw [hj46]; exact own_eqsym _ _ _ _ _ _ _ _ hl1 hl2)) kt_) ?_
          refine own_by (T' := T83) (g' := (mkF m 264 #[.val (.int p0), .val (.int p1), .val (.int p2), .val (.int p3), .val (.int l1), .val (.int l2), .val (.int (((p3.toUInt32 >>> ((4 : Int32) &&& 31).toUInt32).toInt32) &&& (3 : Int32))), .val (.int a0_), .val (.int a1_), .val (.int a2_), .val (.int b0_), .val (.int b1_), .val (.int b2_), .val (.ref x_4), .val (.ref x_11), .val (.ref b17), .val (.int sm), .val (.ref b47)] [(.ref b47)])) (fun _ kt_ => XS.aload X83.here hx rfl (hb hby at_262) rfl rfl kt_) ?_
          refine own_by (T' := T83) (g' := (mkF m 266 #[.val (.int p0), .val (.int p1), .val (.int p2), .val (.int p3), .val (.int l1), .val (.int l2), .val (.int (((p3.toUInt32 >>> ((4 : Int32) &&& 31).toUInt32).toInt32) &&& (3 : Int32))), .val (.int a0_), .val (.int a1_), .val (.int a2_), .val (.int b0_), .val (.int b1_), .val (.int b2_), .val (.ref x_4), .val (.ref x_11), .val (.ref b17), .val (.int sm), .val (.ref b47)] [(.ref b17), (.ref b47)])) (fun _ kt_ => XS.aload X83.here hx rfl (hb hby at_264) rfl rfl kt_) ?_
          have ne86 : @Ne Nat x_4 x_11 := by omega
          obtain ⟨cq87, kq87, q87a, q87b, q87c⟩ := isOf hZ59 e83 f63
          obtain ⟨_, _, ⟨T87, L87, k87, n87⟩, -, X87, ⟨Lc87, hQ87, l87, y87, z87⟩, st87⟩ := X83.virtualBack hx (y := (⟨"com/example/dependency_wiring/dependencywiring/BeanNameReference", "equals", "(Ljava/lang/Object;)Z"⟩ : MethodName)) (z := (⟨"com/example/dependency_wiring/dependencywiring/BeanNameReference", "equals", "(Ljava/lang/Object;)Z"⟩ : MethodName)) hown59 (mvT hZ59 (hw _ (List.mem_of_getElem? (i := 56) rfl))) (mvT hZ59 (hw _ (List.mem_of_getElem? (i := 57) rfl))) (notFace_of_selects (args := #[]) (mvT hZ59 (hw _ (List.mem_of_getElem? (i := 59) rfl)))) (mvT hZ59 (hw _ (List.mem_of_getElem? (i := 59) rfl))) (mvT hZ59 (hw _ (List.mem_of_getElem? (i := 58) rfl))) (by decide) (backOf (W := 0) (rmBEqG l Z a0 hw [] zC GS b47 b17 x_4 x_11 t_5 t_12 kB_6 kB_13 l1 a0_ a1_ a2_ l2 b0_ b1_ b2_ T59.heap n0 (by omega) oo61 f84 f65 p59_0 ne86 f69 f68 f74 f71 f76 f75 f82 f78 hl1 hl2) hZ59 (hw _ (List.mem_of_getElem? (i := 60) rfl)) (hw _ (List.mem_of_getElem? (i := 36) rfl)) (by decide) (by decide)) q87a q87c (g := (mkF m 266 #[.val (.int p0), .val (.int p1), .val (.int p2), .val (.int p3), .val (.int l1), .val (.int l2), .val (.int (((p3.toUInt32 >>> ((4 : Int32) &&& 31).toUInt32).toInt32) &&& (3 : Int32))), .val (.int a0_), .val (.int a1_), .val (.int a2_), .val (.int b0_), .val (.int b1_), .val (.int b2_), .val (.ref x_4), .val (.ref x_11), .val (.ref b17), .val (.int sm), .val (.ref b47)] [(.ref b17), (.ref b47)])) rfl (by rw [hml]; rfl) (Steps.refl _) (argsL := [(.ref b17)]) (rest := []) (lenOf own_pd_7 rfl) rfl (by show 2 * 0 + _ ≤ _; exact Nat.le_of_eq rfl) (hb hby at_266) (fun _ _ => ⟨rfl, e83, (by decide : 12 + 0 ≤ _), (by decide : 94 + 0 ≤ _)⟩)
          dsimp only [Pt.U, Pt.locs, Pt.cells, Pt.slots] at X87 l87 y87 z87 st87 hQ87
          subst l87 y87 z87
          obtain ⟨rfl, N87q, e87⟩ := hQ87
          have N88 := Fr.app N85 N87q
          refine own_by (T' := T87) (g' := (mkF m 269 #[.val (.int p0), .val (.int p1), .val (.int p2), .val (.int p3), .val (.int l1), .val (.int l2), .val (.int (((p3.toUInt32 >>> ((4 : Int32) &&& 31).toUInt32).toInt32) &&& (3 : Int32))), .val (.int a0_), .val (.int a1_), .val (.int a2_), .val (.int b0_), .val (.int b1_), .val (.int b2_), .val (.ref x_4), .val (.ref x_11), .val (.ref b17), .val (.int sm), .val (.ref b47)] [(.int (eqF l1 a0_ a1_ a2_ l2 b0_ b1_ b2_))])) (fun _ kt_ => st87.trans kt_) ?_
          refine own_by (T' := T87) (g' := (mkF m 271 #[.val (.int p0), .val (.int p1), .val (.int p2), .val (.int p3), .val (.int l1), .val (.int l2), .val (.int (((p3.toUInt32 >>> ((4 : Int32) &&& 31).toUInt32).toInt32) &&& (3 : Int32))), .val (.int a0_), .val (.int a1_), .val (.int a2_), .val (.int b0_), .val (.int b1_), .val (.int b2_), .val (.ref x_4), .val (.ref x_11), .val (.ref b17), .val (.int sm), .val (.ref b47)] [(.int sm), (.int (eqF l1 a0_ a1_ a2_ l2 b0_ b1_ b2_))])) (fun _ kt_ => XS.iload X87.here hx rfl (hb hby at_269) rfl kt_) ?_
          refine own_by (T' := T87) (g' := (mkF m 274 #[.val (.int p0), .val (.int p1), .val (.int p2), .val (.int p3), .val (.int l1), .val (.int l2), .val (.int (((p3.toUInt32 >>> ((4 : Int32) &&& 31).toUInt32).toInt32) &&& (3 : Int32))), .val (.int a0_), .val (.int a1_), .val (.int a2_), .val (.int b0_), .val (.int b1_), .val (.int b2_), .val (.ref x_4), .val (.ref x_11), .val (.ref b17), .val (.int sm), .val (.ref b47)] [])) (fun _ kt_ => XS.icmpNo X87.here hx rfl (hb hby at_271) rfl (XT.ii_ne_f (by rw [hj46]; done)) kt_) ?_
          refine own_by (T' := T87) (g' := (mkF m 275 #[.val (.int p0), .val (.int p1), .val (.int p2), .val (.int p3), .val (.int l1), .val (.int l2), .val (.int (((p3.toUInt32 >>> ((4 : Int32) &&& 31).toUInt32).toInt32) &&& (3 : Int32))), .val (.int a0_), .val (.int a1_), .val (.int a2_), .val (.int b0_), .val (.int b1_), .val (.int b2_), .val (.ref x_4), .val (.ref x_11), .val (.ref b17), .val (.int sm), .val (.ref b47)] [(.int (1 : Int32))])) (fun _ kt_ => XS.iconst X87.here hx rfl (hb hby at_274) kt_) ?_
          refine own_by (T' := T87) (g' := (mkF m 279 #[.val (.int p0), .val (.int p1), .val (.int p2), .val (.int p3), .val (.int l1), .val (.int l2), .val (.int (((p3.toUInt32 >>> ((4 : Int32) &&& 31).toUInt32).toInt32) &&& (3 : Int32))), .val (.int a0_), .val (.int a1_), .val (.int a2_), .val (.int b0_), .val (.int b1_), .val (.int b2_), .val (.ref x_4), .val (.ref x_11), .val (.ref b17), .val (.int sm), .val (.ref b47)] [(.int (1 : Int32))])) (fun _ kt_ => XS.goto X87.here hx rfl (pc0 := 275) (pc' := 279) rfl (hb hby at_275) (by decide) (by decide) kt_) ?_
          have hn89 : nar .boolean (1 : Int32) = (1 : Int32) := rfl
          obtain ⟨fs90, hr90, hrun90, hended90, hW90⟩ := X87.leaveW hS59 (by rw [e87]; omega) (v := some (.int (nar .boolean (1 : Int32)))) (fun h => by rw [Bd.returns] at h; cases h)
          refine ⟨_, _, retN X87 hx (t := .boolean) Bd.returns (by simp) (hb hby at_279) hr90, hrun90, hended90, _, _, rfl, ?_, hW90.1, hW90.2.1, hW90.2.2.1, hW90.2.2.2.mono (by decide) (by decide)⟩
          show Q_rm0 Z zC p0 p1 p2 p3 h0 n0 _ T87.heap _
          exact ⟨(congrArg (fun z => some (Value.int z)) hn89), N88⟩
        refine own_by (T' := T25) (g' := (mkF m 194 #[.val (.int p0), .val (.int p1), .val (.int p2), .val (.int p3), .val (.int l1), .val (.int l2), .val (.int (((p3.toUInt32 >>> ((4 : Int32) &&& 31).toUInt32).toInt32) &&& (3 : Int32))), .val (.int a0_), .val (.int a1_), .val (.int a2_), .val (.int b0_), .val (.int b1_), .val (.int b2_), .val (.ref x_4), .val (.ref x_11), .val (.ref b17), .unset, .unset] [(.int l1)])) (fun _ kt_ => XS.iload X25.here hx rfl (hb hby at_192) rfl kt_) ?_
        refine own_by (T' := T25) (g' := (mkF m 196 #[.val (.int p0), .val (.int p1), .val (.int p2), .val (.int p3), .val (.int l1), .val (.int l2), .val (.int (((p3.toUInt32 >>> ((4 : Int32) &&& 31).toUInt32).toInt32) &&& (3 : Int32))), .val (.int a0_), .val (.int a1_), .val (.int a2_), .val (.int b0_), .val (.int b1_), .val (.int b2_), .val (.ref x_4), .val (.ref x_11), .val (.ref b17), .unset, .unset] [(.int l2), (.int l1)])) (fun _ kt_ => XS.iload X25.here hx rfl (hb hby at_194) rfl kt_) ?_
        by_cases hc91 : l1 = l2
        · refine own_by (T' := T25) (g' := (mkF m 199 #[.val (.int p0), .val (.int p1), .val (.int p2), .val (.int p3), .val (.int l1), .val (.int l2), .val (.int (((p3.toUInt32 >>> ((4 : Int32) &&& 31).toUInt32).toInt32) &&& (3 : Int32))), .val (.int a0_), .val (.int a1_), .val (.int a2_), .val (.int b0_), .val (.int b1_), .val (.int b2_), .val (.ref x_4), .val (.ref x_11), .val (.ref b17), .unset, .unset] [])) (fun _ kt_ => XS.icmpNo X25.here hx rfl (hb hby at_196) rfl (XT.ii_ne_f hc91) kt_) ?_
          refine own_by (T' := T25) (g' := (mkF m 201 #[.val (.int p0), .val (.int p1), .val (.int p2), .val (.int p3), .val (.int l1), .val (.int l2), .val (.int (((p3.toUInt32 >>> ((4 : Int32) &&& 31).toUInt32).toInt32) &&& (3 : Int32))), .val (.int a0_), .val (.int a1_), .val (.int a2_), .val (.int b0_), .val (.int b1_), .val (.int b2_), .val (.ref x_4), .val (.ref x_11), .val (.ref b17), .unset, .unset] [(.int a0_)])) (fun _ kt_ => XS.iload X25.here hx rfl (hb hby at_199) rfl kt_) ?_
          refine own_by (T' := T25) (g' := (mkF m 203 #[.val (.int p0), .val (.int p1), .val (.int p2), .val (.int p3), .val (.int l1), .val (.int l2), .val (.int (((p3.toUInt32 >>> ((4 : Int32) &&& 31).toUInt32).toInt32) &&& (3 : Int32))), .val (.int a0_), .val (.int a1_), .val (.int a2_), .val (.int b0_), .val (.int b1_), .val (.int b2_), .val (.ref x_4), .val (.ref x_11), .val (.ref b17), .unset, .unset] [(.int b0_), (.int a0_)])) (fun _ kt_ => XS.iload X25.here hx rfl (hb hby at_201) rfl kt_) ?_
          by_cases hc92 : a0_ = b0_
          · refine own_by (T' := T25) (g' := (mkF m 206 #[.val (.int p0), .val (.int p1), .val (.int p2), .val (.int p3), .val (.int l1), .val (.int l2), .val (.int (((p3.toUInt32 >>> ((4 : Int32) &&& 31).toUInt32).toInt32) &&& (3 : Int32))), .val (.int a0_), .val (.int a1_), .val (.int a2_), .val (.int b0_), .val (.int b1_), .val (.int b2_), .val (.ref x_4), .val (.ref x_11), .val (.ref b17), .unset, .unset] [])) (fun _ kt_ => XS.icmpNo X25.here hx rfl (hb hby at_203) rfl (XT.ii_ne_f hc92) kt_) ?_
            refine own_by (T' := T25) (g' := (mkF m 208 #[.val (.int p0), .val (.int p1), .val (.int p2), .val (.int p3), .val (.int l1), .val (.int l2), .val (.int (((p3.toUInt32 >>> ((4 : Int32) &&& 31).toUInt32).toInt32) &&& (3 : Int32))), .val (.int a0_), .val (.int a1_), .val (.int a2_), .val (.int b0_), .val (.int b1_), .val (.int b2_), .val (.ref x_4), .val (.ref x_11), .val (.ref b17), .unset, .unset] [(.int l1)])) (fun _ kt_ => XS.iload X25.here hx rfl (hb hby at_206) rfl kt_) ?_
            refine own_by (T' := T25) (g' := (mkF m 209 #[.val (.int p0), .val (.int p1), .val (.int p2), .val (.int p3), .val (.int l1), .val (.int l2), .val (.int (((p3.toUInt32 >>> ((4 : Int32) &&& 31).toUInt32).toInt32) &&& (3 : Int32))), .val (.int a0_), .val (.int a1_), .val (.int a2_), .val (.int b0_), .val (.int b1_), .val (.int b2_), .val (.ref x_4), .val (.ref x_11), .val (.ref b17), .unset, .unset] [(.int (2 : Int32)), (.int l1)])) (fun _ kt_ => XS.iconst X25.here hx rfl (hb hby at_208) kt_) ?_
            by_cases hc93 : l1 < (2 : Int32)
            · refine own_by (T' := T25) (g' := (mkF m 219 #[.val (.int p0), .val (.int p1), .val (.int p2), .val (.int p3), .val (.int l1), .val (.int l2), .val (.int (((p3.toUInt32 >>> ((4 : Int32) &&& 31).toUInt32).toInt32) &&& (3 : Int32))), .val (.int a0_), .val (.int a1_), .val (.int a2_), .val (.int b0_), .val (.int b1_), .val (.int b2_), .val (.ref x_4), .val (.ref x_11), .val (.ref b17), .unset, .unset] [])) (fun _ kt_ => XS.icmpYes X25.here hx rfl (pc0 := 209) (pc' := 219) rfl (hb hby at_209) rfl (XT.ii_lt_t hc93) (by decide) (by decide) kt_) ?_
              refine own_by (T' := T25) (g' := (mkF m 221 #[.val (.int p0), .val (.int p1), .val (.int p2), .val (.int p3), .val (.int l1), .val (.int l2), .val (.int (((p3.toUInt32 >>> ((4 : Int32) &&& 31).toUInt32).toInt32) &&& (3 : Int32))), .val (.int a0_), .val (.int a1_), .val (.int a2_), .val (.int b0_), .val (.int b1_), .val (.int b2_), .val (.ref x_4), .val (.ref x_11), .val (.ref b17), .unset, .unset] [(.int l1)])) (fun _ kt_ => XS.iload X25.here hx rfl (hb hby at_219) rfl kt_) ?_
              refine own_by (T' := T25) (g' := (mkF m 222 #[.val (.int p0), .val (.int p1), .val (.int p2), .val (.int p3), .val (.int l1), .val (.int l2), .val (.int (((p3.toUInt32 >>> ((4 : Int32) &&& 31).toUInt32).toInt32) &&& (3 : Int32))), .val (.int a0_), .val (.int a1_), .val (.int a2_), .val (.int b0_), .val (.int b1_), .val (.int b2_), .val (.ref x_4), .val (.ref x_11), .val (.ref b17), .unset, .unset] [(.int (3 : Int32)), (.int l1)])) (fun _ kt_ => XS.iconst X25.here hx rfl (hb hby at_221) kt_) ?_
              by_cases hc94 : l1 < (3 : Int32)
              · refine own_by (T' := T25) (g' := (mkF m 232 #[.val (.int p0), .val (.int p1), .val (.int p2), .val (.int p3), .val (.int l1), .val (.int l2), .val (.int (((p3.toUInt32 >>> ((4 : Int32) &&& 31).toUInt32).toInt32) &&& (3 : Int32))), .val (.int a0_), .val (.int a1_), .val (.int a2_), .val (.int b0_), .val (.int b1_), .val (.int b2_), .val (.ref x_4), .val (.ref x_11), .val (.ref b17), .unset, .unset] [])) (fun _ kt_ => XS.icmpYes X25.here hx rfl (pc0 := 222) (pc' := 232) rfl (hb hby at_222) rfl (XT.ii_lt_t hc94) (by decide) (by decide) kt_) ?_
                refine own_by (T' := T25) (g' := (mkF m 233 #[.val (.int p0), .val (.int p1), .val (.int p2), .val (.int p3), .val (.int l1), .val (.int l2), .val (.int (((p3.toUInt32 >>> ((4 : Int32) &&& 31).toUInt32).toInt32) &&& (3 : Int32))), .val (.int a0_), .val (.int a1_), .val (.int a2_), .val (.int b0_), .val (.int b1_), .val (.int b2_), .val (.ref x_4), .val (.ref x_11), .val (.ref b17), .unset, .unset] [(.int (1 : Int32))])) (fun _ kt_ => XS.iconst X25.here hx rfl (hb hby at_232) kt_) ?_
                refine own_by (T' := T25) (g' := (mkF m 237 #[.val (.int p0), .val (.int p1), .val (.int p2), .val (.int p3), .val (.int l1), .val (.int l2), .val (.int (((p3.toUInt32 >>> ((4 : Int32) &&& 31).toUInt32).toInt32) &&& (3 : Int32))), .val (.int a0_), .val (.int a1_), .val (.int a2_), .val (.int b0_), .val (.int b1_), .val (.int b2_), .val (.ref x_4), .val (.ref x_11), .val (.ref b17), .unset, .unset] [(.int (1 : Int32))])) (fun _ kt_ => XS.goto X25.here hx rfl (pc0 := 233) (pc' := 237) rfl (hb hby at_233) (by decide) (by decide) kt_) ?_
                exact J45 T25 _  X25 rfl  N26 (1 : Int32)  (by
                                    unfold eqF
                                    have q0 := own_b8 ok_a0_ ok_b0_
                                    have q1 := own_b8 ok_a1_ ok_b1_
                                    have q2 := own_b8 ok_a2_ ok_b2_
                                    simp only [q0, q1, q2]
                                    rcases hl1 with rfl | rfl | rfl <;> rcases hl2 with rfl | rfl | rfl <;> revert hc29 hc36 hc91 hc92 hc93 hc94 <;> simp +decide +contextual)
              · refine own_by (T' := T25) (g' := (mkF m 225 #[.val (.int p0), .val (.int p1), .val (.int p2), .val (.int p3), .val (.int l1), .val (.int l2), .val (.int (((p3.toUInt32 >>> ((4 : Int32) &&& 31).toUInt32).toInt32) &&& (3 : Int32))), .val (.int a0_), .val (.int a1_), .val (.int a2_), .val (.int b0_), .val (.int b1_), .val (.int b2_), .val (.ref x_4), .val (.ref x_11), .val (.ref b17), .unset, .unset] [])) (fun _ kt_ => XS.icmpNo X25.here hx rfl (hb hby at_222) rfl (XT.ii_lt_f hc94) kt_) ?_
                refine own_by (T' := T25) (g' := (mkF m 227 #[.val (.int p0), .val (.int p1), .val (.int p2), .val (.int p3), .val (.int l1), .val (.int l2), .val (.int (((p3.toUInt32 >>> ((4 : Int32) &&& 31).toUInt32).toInt32) &&& (3 : Int32))), .val (.int a0_), .val (.int a1_), .val (.int a2_), .val (.int b0_), .val (.int b1_), .val (.int b2_), .val (.ref x_4), .val (.ref x_11), .val (.ref b17), .unset, .unset] [(.int a2_)])) (fun _ kt_ => XS.iload X25.here hx rfl (hb hby at_225) rfl kt_) ?_
                refine own_by (T' := T25) (g' := (mkF m 229 #[.val (.int p0), .val (.int p1), .val (.int p2), .val (.int p3), .val (.int l1), .val (.int l2), .val (.int (((p3.toUInt32 >>> ((4 : Int32) &&& 31).toUInt32).toInt32) &&& (3 : Int32))), .val (.int a0_), .val (.int a1_), .val (.int a2_), .val (.int b0_), .val (.int b1_), .val (.int b2_), .val (.ref x_4), .val (.ref x_11), .val (.ref b17), .unset, .unset] [(.int b2_), (.int a2_)])) (fun _ kt_ => XS.iload X25.here hx rfl (hb hby at_227) rfl kt_) ?_
                by_cases hc95 : a2_ = b2_
                · refine own_by (T' := T25) (g' := (mkF m 232 #[.val (.int p0), .val (.int p1), .val (.int p2), .val (.int p3), .val (.int l1), .val (.int l2), .val (.int (((p3.toUInt32 >>> ((4 : Int32) &&& 31).toUInt32).toInt32) &&& (3 : Int32))), .val (.int a0_), .val (.int a1_), .val (.int a2_), .val (.int b0_), .val (.int b1_), .val (.int b2_), .val (.ref x_4), .val (.ref x_11), .val (.ref b17), .unset, .unset] [])) (fun _ kt_ => XS.icmpNo X25.here hx rfl (hb hby at_229) rfl (XT.ii_ne_f hc95) kt_) ?_
                  refine own_by (T' := T25) (g' := (mkF m 233 #[.val (.int p0), .val (.int p1), .val (.int p2), .val (.int p3), .val (.int l1), .val (.int l2), .val (.int (((p3.toUInt32 >>> ((4 : Int32) &&& 31).toUInt32).toInt32) &&& (3 : Int32))), .val (.int a0_), .val (.int a1_), .val (.int a2_), .val (.int b0_), .val (.int b1_), .val (.int b2_), .val (.ref x_4), .val (.ref x_11), .val (.ref b17), .unset, .unset] [(.int (1 : Int32))])) (fun _ kt_ => XS.iconst X25.here hx rfl (hb hby at_232) kt_) ?_
                  refine own_by (T' := T25) (g' := (mkF m 237 #[.val (.int p0), .val (.int p1), .val (.int p2), .val (.int p3), .val (.int l1), .val (.int l2), .val (.int (((p3.toUInt32 >>> ((4 : Int32) &&& 31).toUInt32).toInt32) &&& (3 : Int32))), .val (.int a0_), .val (.int a1_), .val (.int a2_), .val (.int b0_), .val (.int b1_), .val (.int b2_), .val (.ref x_4), .val (.ref x_11), .val (.ref b17), .unset, .unset] [(.int (1 : Int32))])) (fun _ kt_ => XS.goto X25.here hx rfl (pc0 := 233) (pc' := 237) rfl (hb hby at_233) (by decide) (by decide) kt_) ?_
                  exact J45 T25 _  X25 rfl  N26 (1 : Int32)  (by
                                        unfold eqF
                                        have q0 := own_b8 ok_a0_ ok_b0_
                                        have q1 := own_b8 ok_a1_ ok_b1_
                                        have q2 := own_b8 ok_a2_ ok_b2_
                                        simp only [q0, q1, q2]
                                        rcases hl1 with rfl | rfl | rfl <;> rcases hl2 with rfl | rfl | rfl <;> revert hc29 hc36 hc91 hc92 hc93 hc94 hc95 <;> simp +decide +contextual)
                · refine own_by (T' := T25) (g' := (mkF m 236 #[.val (.int p0), .val (.int p1), .val (.int p2), .val (.int p3), .val (.int l1), .val (.int l2), .val (.int (((p3.toUInt32 >>> ((4 : Int32) &&& 31).toUInt32).toInt32) &&& (3 : Int32))), .val (.int a0_), .val (.int a1_), .val (.int a2_), .val (.int b0_), .val (.int b1_), .val (.int b2_), .val (.ref x_4), .val (.ref x_11), .val (.ref b17), .unset, .unset] [])) (fun _ kt_ => XS.icmpYes X25.here hx rfl (pc0 := 229) (pc' := 236) rfl (hb hby at_229) rfl (XT.ii_ne_t hc95) (by decide) (by decide) kt_) ?_
                  refine own_by (T' := T25) (g' := (mkF m 237 #[.val (.int p0), .val (.int p1), .val (.int p2), .val (.int p3), .val (.int l1), .val (.int l2), .val (.int (((p3.toUInt32 >>> ((4 : Int32) &&& 31).toUInt32).toInt32) &&& (3 : Int32))), .val (.int a0_), .val (.int a1_), .val (.int a2_), .val (.int b0_), .val (.int b1_), .val (.int b2_), .val (.ref x_4), .val (.ref x_11), .val (.ref b17), .unset, .unset] [(.int (0 : Int32))])) (fun _ kt_ => XS.iconst X25.here hx rfl (hb hby at_236) kt_) ?_
                  exact J45 T25 _  X25 rfl  N26 (0 : Int32)  (by
                                        unfold eqF
                                        have q0 := own_b8 ok_a0_ ok_b0_
                                        have q1 := own_b8 ok_a1_ ok_b1_
                                        have q2 := own_b8 ok_a2_ ok_b2_
                                        simp only [q0, q1, q2]
                                        rcases hl1 with rfl | rfl | rfl <;> rcases hl2 with rfl | rfl | rfl <;> revert hc29 hc36 hc91 hc92 hc93 hc94 hc95 <;> simp +decide +contextual)
            · refine own_by (T' := T25) (g' := (mkF m 212 #[.val (.int p0), .val (.int p1), .val (.int p2), .val (.int p3), .val (.int l1), .val (.int l2), .val (.int (((p3.toUInt32 >>> ((4 : Int32) &&& 31).toUInt32).toInt32) &&& (3 : Int32))), .val (.int a0_), .val (.int a1_), .val (.int a2_), .val (.int b0_), .val (.int b1_), .val (.int b2_), .val (.ref x_4), .val (.ref x_11), .val (.ref b17), .unset, .unset] [])) (fun _ kt_ => XS.icmpNo X25.here hx rfl (hb hby at_209) rfl (XT.ii_lt_f hc93) kt_) ?_
              refine own_by (T' := T25) (g' := (mkF m 214 #[.val (.int p0), .val (.int p1), .val (.int p2), .val (.int p3), .val (.int l1), .val (.int l2), .val (.int (((p3.toUInt32 >>> ((4 : Int32) &&& 31).toUInt32).toInt32) &&& (3 : Int32))), .val (.int a0_), .val (.int a1_), .val (.int a2_), .val (.int b0_), .val (.int b1_), .val (.int b2_), .val (.ref x_4), .val (.ref x_11), .val (.ref b17), .unset, .unset] [(.int a1_)])) (fun _ kt_ => XS.iload X25.here hx rfl (hb hby at_212) rfl kt_) ?_
              refine own_by (T' := T25) (g' := (mkF m 216 #[.val (.int p0), .val (.int p1), .val (.int p2), .val (.int p3), .val (.int l1), .val (.int l2), .val (.int (((p3.toUInt32 >>> ((4 : Int32) &&& 31).toUInt32).toInt32) &&& (3 : Int32))), .val (.int a0_), .val (.int a1_), .val (.int a2_), .val (.int b0_), .val (.int b1_), .val (.int b2_), .val (.ref x_4), .val (.ref x_11), .val (.ref b17), .unset, .unset] [(.int b1_), (.int a1_)])) (fun _ kt_ => XS.iload X25.here hx rfl (hb hby at_214) rfl kt_) ?_
              by_cases hc96 : a1_ = b1_
              · refine own_by (T' := T25) (g' := (mkF m 219 #[.val (.int p0), .val (.int p1), .val (.int p2), .val (.int p3), .val (.int l1), .val (.int l2), .val (.int (((p3.toUInt32 >>> ((4 : Int32) &&& 31).toUInt32).toInt32) &&& (3 : Int32))), .val (.int a0_), .val (.int a1_), .val (.int a2_), .val (.int b0_), .val (.int b1_), .val (.int b2_), .val (.ref x_4), .val (.ref x_11), .val (.ref b17), .unset, .unset] [])) (fun _ kt_ => XS.icmpNo X25.here hx rfl (hb hby at_216) rfl (XT.ii_ne_f hc96) kt_) ?_
                refine own_by (T' := T25) (g' := (mkF m 221 #[.val (.int p0), .val (.int p1), .val (.int p2), .val (.int p3), .val (.int l1), .val (.int l2), .val (.int (((p3.toUInt32 >>> ((4 : Int32) &&& 31).toUInt32).toInt32) &&& (3 : Int32))), .val (.int a0_), .val (.int a1_), .val (.int a2_), .val (.int b0_), .val (.int b1_), .val (.int b2_), .val (.ref x_4), .val (.ref x_11), .val (.ref b17), .unset, .unset] [(.int l1)])) (fun _ kt_ => XS.iload X25.here hx rfl (hb hby at_219) rfl kt_) ?_
                refine own_by (T' := T25) (g' := (mkF m 222 #[.val (.int p0), .val (.int p1), .val (.int p2), .val (.int p3), .val (.int l1), .val (.int l2), .val (.int (((p3.toUInt32 >>> ((4 : Int32) &&& 31).toUInt32).toInt32) &&& (3 : Int32))), .val (.int a0_), .val (.int a1_), .val (.int a2_), .val (.int b0_), .val (.int b1_), .val (.int b2_), .val (.ref x_4), .val (.ref x_11), .val (.ref b17), .unset, .unset] [(.int (3 : Int32)), (.int l1)])) (fun _ kt_ => XS.iconst X25.here hx rfl (hb hby at_221) kt_) ?_
                by_cases hc97 : l1 < (3 : Int32)
                · refine own_by (T' := T25) (g' := (mkF m 232 #[.val (.int p0), .val (.int p1), .val (.int p2), .val (.int p3), .val (.int l1), .val (.int l2), .val (.int (((p3.toUInt32 >>> ((4 : Int32) &&& 31).toUInt32).toInt32) &&& (3 : Int32))), .val (.int a0_), .val (.int a1_), .val (.int a2_), .val (.int b0_), .val (.int b1_), .val (.int b2_), .val (.ref x_4), .val (.ref x_11), .val (.ref b17), .unset, .unset] [])) (fun _ kt_ => XS.icmpYes X25.here hx rfl (pc0 := 222) (pc' := 232) rfl (hb hby at_222) rfl (XT.ii_lt_t hc97) (by decide) (by decide) kt_) ?_
                  refine own_by (T' := T25) (g' := (mkF m 233 #[.val (.int p0), .val (.int p1), .val (.int p2), .val (.int p3), .val (.int l1), .val (.int l2), .val (.int (((p3.toUInt32 >>> ((4 : Int32) &&& 31).toUInt32).toInt32) &&& (3 : Int32))), .val (.int a0_), .val (.int a1_), .val (.int a2_), .val (.int b0_), .val (.int b1_), .val (.int b2_), .val (.ref x_4), .val (.ref x_11), .val (.ref b17), .unset, .unset] [(.int (1 : Int32))])) (fun _ kt_ => XS.iconst X25.here hx rfl (hb hby at_232) kt_) ?_
                  refine own_by (T' := T25) (g' := (mkF m 237 #[.val (.int p0), .val (.int p1), .val (.int p2), .val (.int p3), .val (.int l1), .val (.int l2), .val (.int (((p3.toUInt32 >>> ((4 : Int32) &&& 31).toUInt32).toInt32) &&& (3 : Int32))), .val (.int a0_), .val (.int a1_), .val (.int a2_), .val (.int b0_), .val (.int b1_), .val (.int b2_), .val (.ref x_4), .val (.ref x_11), .val (.ref b17), .unset, .unset] [(.int (1 : Int32))])) (fun _ kt_ => XS.goto X25.here hx rfl (pc0 := 233) (pc' := 237) rfl (hb hby at_233) (by decide) (by decide) kt_) ?_
                  exact J45 T25 _  X25 rfl  N26 (1 : Int32)  (by
                                        unfold eqF
                                        have q0 := own_b8 ok_a0_ ok_b0_
                                        have q1 := own_b8 ok_a1_ ok_b1_
                                        have q2 := own_b8 ok_a2_ ok_b2_
                                        simp only [q0, q1, q2]
                                        rcases hl1 with rfl | rfl | rfl <;> rcases hl2 with rfl | rfl | rfl <;> revert hc29 hc36 hc91 hc92 hc93 hc96 hc97 <;> simp +decide +contextual)
                · refine own_by (T' := T25) (g' := (mkF m 225 #[.val (.int p0), .val (.int p1), .val (.int p2), .val (.int p3), .val (.int l1), .val (.int l2), .val (.int (((p3.toUInt32 >>> ((4 : Int32) &&& 31).toUInt32).toInt32) &&& (3 : Int32))), .val (.int a0_), .val (.int a1_), .val (.int a2_), .val (.int b0_), .val (.int b1_), .val (.int b2_), .val (.ref x_4), .val (.ref x_11), .val (.ref b17), .unset, .unset] [])) (fun _ kt_ => XS.icmpNo X25.here hx rfl (hb hby at_222) rfl (XT.ii_lt_f hc97) kt_) ?_
                  refine own_by (T' := T25) (g' := (mkF m 227 #[.val (.int p0), .val (.int p1), .val (.int p2), .val (.int p3), .val (.int l1), .val (.int l2), .val (.int (((p3.toUInt32 >>> ((4 : Int32) &&& 31).toUInt32).toInt32) &&& (3 : Int32))), .val (.int a0_), .val (.int a1_), .val (.int a2_), .val (.int b0_), .val (.int b1_), .val (.int b2_), .val (.ref x_4), .val (.ref x_11), .val (.ref b17), .unset, .unset] [(.int a2_)])) (fun _ kt_ => XS.iload X25.here hx rfl (hb hby at_225) rfl kt_) ?_
                  refine own_by (T' := T25) (g' := (mkF m 229 #[.val (.int p0), .val (.int p1), .val (.int p2), .val (.int p3), .val (.int l1), .val (.int l2), .val (.int (((p3.toUInt32 >>> ((4 : Int32) &&& 31).toUInt32).toInt32) &&& (3 : Int32))), .val (.int a0_), .val (.int a1_), .val (.int a2_), .val (.int b0_), .val (.int b1_), .val (.int b2_), .val (.ref x_4), .val (.ref x_11), .val (.ref b17), .unset, .unset] [(.int b2_), (.int a2_)])) (fun _ kt_ => XS.iload X25.here hx rfl (hb hby at_227) rfl kt_) ?_
                  by_cases hc98 : a2_ = b2_
                  · refine own_by (T' := T25) (g' := (mkF m 232 #[.val (.int p0), .val (.int p1), .val (.int p2), .val (.int p3), .val (.int l1), .val (.int l2), .val (.int (((p3.toUInt32 >>> ((4 : Int32) &&& 31).toUInt32).toInt32) &&& (3 : Int32))), .val (.int a0_), .val (.int a1_), .val (.int a2_), .val (.int b0_), .val (.int b1_), .val (.int b2_), .val (.ref x_4), .val (.ref x_11), .val (.ref b17), .unset, .unset] [])) (fun _ kt_ => XS.icmpNo X25.here hx rfl (hb hby at_229) rfl (XT.ii_ne_f hc98) kt_) ?_
                    refine own_by (T' := T25) (g' := (mkF m 233 #[.val (.int p0), .val (.int p1), .val (.int p2), .val (.int p3), .val (.int l1), .val (.int l2), .val (.int (((p3.toUInt32 >>> ((4 : Int32) &&& 31).toUInt32).toInt32) &&& (3 : Int32))), .val (.int a0_), .val (.int a1_), .val (.int a2_), .val (.int b0_), .val (.int b1_), .val (.int b2_), .val (.ref x_4), .val (.ref x_11), .val (.ref b17), .unset, .unset] [(.int (1 : Int32))])) (fun _ kt_ => XS.iconst X25.here hx rfl (hb hby at_232) kt_) ?_
                    refine own_by (T' := T25) (g' := (mkF m 237 #[.val (.int p0), .val (.int p1), .val (.int p2), .val (.int p3), .val (.int l1), .val (.int l2), .val (.int (((p3.toUInt32 >>> ((4 : Int32) &&& 31).toUInt32).toInt32) &&& (3 : Int32))), .val (.int a0_), .val (.int a1_), .val (.int a2_), .val (.int b0_), .val (.int b1_), .val (.int b2_), .val (.ref x_4), .val (.ref x_11), .val (.ref b17), .unset, .unset] [(.int (1 : Int32))])) (fun _ kt_ => XS.goto X25.here hx rfl (pc0 := 233) (pc' := 237) rfl (hb hby at_233) (by decide) (by decide) kt_) ?_
                    exact J45 T25 _  X25 rfl  N26 (1 : Int32)  (by
                                            unfold eqF
                                            have q0 := own_b8 ok_a0_ ok_b0_
                                            have q1 := own_b8 ok_a1_ ok_b1_
                                            have q2 := own_b8 ok_a2_ ok_b2_
                                            simp only [q0, q1, q2]
                                            rcases hl1 with rfl | rfl | rfl <;> rcases hl2 with rfl | rfl | rfl <;> revert hc29 hc36 hc91 hc92 hc93 hc96 hc97 hc98 <;> simp +decide +contextual)
                  · refine own_by (T' := T25) (g' := (mkF m 236 #[.val (.int p0), .val (.int p1), .val (.int p2), .val (.int p3), .val (.int l1), .val (.int l2), .val (.int (((p3.toUInt32 >>> ((4 : Int32) &&& 31).toUInt32).toInt32) &&& (3 : Int32))), .val (.int a0_), .val (.int a1_), .val (.int a2_), .val (.int b0_), .val (.int b1_), .val (.int b2_), .val (.ref x_4), .val (.ref x_11), .val (.ref b17), .unset, .unset] [])) (fun _ kt_ => XS.icmpYes X25.here hx rfl (pc0 := 229) (pc' := 236) rfl (hb hby at_229) rfl (XT.ii_ne_t hc98) (by decide) (by decide) kt_) ?_
                    refine own_by (T' := T25) (g' := (mkF m 237 #[.val (.int p0), .val (.int p1), .val (.int p2), .val (.int p3), .val (.int l1), .val (.int l2), .val (.int (((p3.toUInt32 >>> ((4 : Int32) &&& 31).toUInt32).toInt32) &&& (3 : Int32))), .val (.int a0_), .val (.int a1_), .val (.int a2_), .val (.int b0_), .val (.int b1_), .val (.int b2_), .val (.ref x_4), .val (.ref x_11), .val (.ref b17), .unset, .unset] [(.int (0 : Int32))])) (fun _ kt_ => XS.iconst X25.here hx rfl (hb hby at_236) kt_) ?_
                    exact J45 T25 _  X25 rfl  N26 (0 : Int32)  (by
                                            unfold eqF
                                            have q0 := own_b8 ok_a0_ ok_b0_
                                            have q1 := own_b8 ok_a1_ ok_b1_
                                            have q2 := own_b8 ok_a2_ ok_b2_
                                            simp only [q0, q1, q2]
                                            rcases hl1 with rfl | rfl | rfl <;> rcases hl2 with rfl | rfl | rfl <;> revert hc29 hc36 hc91 hc92 hc93 hc96 hc97 hc98 <;> simp +decide +contextual)
              · refine own_by (T' := T25) (g' := (mkF m 236 #[.val (.int p0), .val (.int p1), .val (.int p2), .val (.int p3), .val (.int l1), .val (.int l2), .val (.int (((p3.toUInt32 >>> ((4 : Int32) &&& 31).toUInt32).toInt32) &&& (3 : Int32))), .val (.int a0_), .val (.int a1_), .val (.int a2_), .val (.int b0_), .val (.int b1_), .val (.int b2_), .val (.ref x_4), .val (.ref x_11), .val (.ref b17), .unset, .unset] [])) (fun _ kt_ => XS.icmpYes X25.here hx rfl (pc0 := 216) (pc' := 236) rfl (hb hby at_216) rfl (XT.ii_ne_t hc96) (by decide) (by decide) kt_) ?_
                refine own_by (T' := T25) (g' := (mkF m 237 #[.val (.int p0), .val (.int p1), .val (.int p2), .val (.int p3), .val (.int l1), .val (.int l2), .val (.int (((p3.toUInt32 >>> ((4 : Int32) &&& 31).toUInt32).toInt32) &&& (3 : Int32))), .val (.int a0_), .val (.int a1_), .val (.int a2_), .val (.int b0_), .val (.int b1_), .val (.int b2_), .val (.ref x_4), .val (.ref x_11), .val (.ref b17), .unset, .unset] [(.int (0 : Int32))])) (fun _ kt_ => XS.iconst X25.here hx rfl (hb hby at_236) kt_) ?_
                exact J45 T25 _  X25 rfl  N26 (0 : Int32)  (by
                                    unfold eqF
                                    have q0 := own_b8 ok_a0_ ok_b0_
                                    have q1 := own_b8 ok_a1_ ok_b1_
                                    have q2 := own_b8 ok_a2_ ok_b2_
                                    simp only [q0, q1, q2]
                                    rcases hl1 with rfl | rfl | rfl <;> rcases hl2 with rfl | rfl | rfl <;> revert hc29 hc36 hc91 hc92 hc93 hc96 <;> simp +decide +contextual)
          · refine own_by (T' := T25) (g' := (mkF m 236 #[.val (.int p0), .val (.int p1), .val (.int p2), .val (.int p3), .val (.int l1), .val (.int l2), .val (.int (((p3.toUInt32 >>> ((4 : Int32) &&& 31).toUInt32).toInt32) &&& (3 : Int32))), .val (.int a0_), .val (.int a1_), .val (.int a2_), .val (.int b0_), .val (.int b1_), .val (.int b2_), .val (.ref x_4), .val (.ref x_11), .val (.ref b17), .unset, .unset] [])) (fun _ kt_ => XS.icmpYes X25.here hx rfl (pc0 := 203) (pc' := 236) rfl (hb hby at_203) rfl (XT.ii_ne_t hc92) (by decide) (by decide) kt_) ?_
            refine own_by (T' := T25) (g' := (mkF m 237 #[.val (.int p0), .val (.int p1), .val (.int p2), .val (.int p3), .val (.int l1), .val (.int l2), .val (.int (((p3.toUInt32 >>> ((4 : Int32) &&& 31).toUInt32).toInt32) &&& (3 : Int32))), .val (.int a0_), .val (.int a1_), .val (.int a2_), .val (.int b0_), .val (.int b1_), .val (.int b2_), .val (.ref x_4), .val (.ref x_11), .val (.ref b17), .unset, .unset] [(.int (0 : Int32))])) (fun _ kt_ => XS.iconst X25.here hx rfl (hb hby at_236) kt_) ?_
            exact J45 T25 _  X25 rfl  N26 (0 : Int32)  (by
                            unfold eqF
                            have q0 := own_b8 ok_a0_ ok_b0_
                            have q1 := own_b8 ok_a1_ ok_b1_
                            have q2 := own_b8 ok_a2_ ok_b2_
                            simp only [q0, q1, q2]
                            rcases hl1 with rfl | rfl | rfl <;> rcases hl2 with rfl | rfl | rfl <;> revert hc29 hc36 hc91 hc92 <;> simp +decide +contextual)
        · refine own_by (T' := T25) (g' := (mkF m 236 #[.val (.int p0), .val (.int p1), .val (.int p2), .val (.int p3), .val (.int l1), .val (.int l2), .val (.int (((p3.toUInt32 >>> ((4 : Int32) &&& 31).toUInt32).toInt32) &&& (3 : Int32))), .val (.int a0_), .val (.int a1_), .val (.int a2_), .val (.int b0_), .val (.int b1_), .val (.int b2_), .val (.ref x_4), .val (.ref x_11), .val (.ref b17), .unset, .unset] [])) (fun _ kt_ => XS.icmpYes X25.here hx rfl (pc0 := 196) (pc' := 236) rfl (hb hby at_196) rfl (XT.ii_ne_t hc91) (by decide) (by decide) kt_) ?_
          refine own_by (T' := T25) (g' := (mkF m 237 #[.val (.int p0), .val (.int p1), .val (.int p2), .val (.int p3), .val (.int l1), .val (.int l2), .val (.int (((p3.toUInt32 >>> ((4 : Int32) &&& 31).toUInt32).toInt32) &&& (3 : Int32))), .val (.int a0_), .val (.int a1_), .val (.int a2_), .val (.int b0_), .val (.int b1_), .val (.int b2_), .val (.ref x_4), .val (.ref x_11), .val (.ref b17), .unset, .unset] [(.int (0 : Int32))])) (fun _ kt_ => XS.iconst X25.here hx rfl (hb hby at_236) kt_) ?_
          exact J45 T25 _  X25 rfl  N26 (0 : Int32)  (by
                        unfold eqF
                        have q0 := own_b8 ok_a0_ ok_b0_
                        have q1 := own_b8 ok_a1_ ok_b1_
                        have q2 := own_b8 ok_a2_ ok_b2_
                        simp only [q0, q1, q2]
                        rcases hl1 with rfl | rfl | rfl <;> rcases hl2 with rfl | rfl | rfl <;> revert hc29 hc36 hc91 <;> simp +decide +contextual)
  refine own_by (T' := s₁) (g' := (mkF m 100 #[.val (.int p0), .val (.int p1), .val (.int p2), .val (.int p3), .val (.int (((p3 &&& (3 : Int32)) % (3 : Int32)) + (1 : Int32))), .val (.int (((((p3.toUInt32 >>> ((2 : Int32) &&& 31).toUInt32).toInt32) &&& (3 : Int32)) % (3 : Int32)) + (1 : Int32))), .val (.int (((p3.toUInt32 >>> ((4 : Int32) &&& 31).toUInt32).toInt32) &&& (3 : Int32))), .val (.int (p0 &&& (255 : Int32)).toUInt32.toUInt16.toUInt32.toInt32), .val (.int (p1 &&& (255 : Int32)).toUInt32.toUInt16.toUInt32.toInt32), .val (.int (p2 &&& (255 : Int32)).toUInt32.toUInt16.toUInt32.toInt32), .val (.int ((p0 + (((p3.toUInt32 >>> ((8 : Int32) &&& 31).toUInt32).toInt32) &&& (255 : Int32))) &&& (255 : Int32)).toUInt32.toUInt16.toUInt32.toInt32), .val (.int ((p1 + (((p3.toUInt32 >>> ((16 : Int32) &&& 31).toUInt32).toInt32) &&& (255 : Int32))) &&& (255 : Int32)).toUInt32.toUInt16.toUInt32.toInt32), .unset, .unset, .unset, .unset, .unset, .unset] [(.int ((p2 + (((p3.toUInt32 >>> ((24 : Int32) &&& 31).toUInt32).toInt32) &&& (255 : Int32))) &&& (255 : Int32)).toUInt32.toUInt16.toUInt32.toInt32)])) (fun _ kt_ => XS.i2c X0.here hx rfl (hb hby at_99) rfl kt_) ?_
  refine own_by (T' := s₁) (g' := (mkF m 102 #[.val (.int p0), .val (.int p1), .val (.int p2), .val (.int p3), .val (.int (((p3 &&& (3 : Int32)) % (3 : Int32)) + (1 : Int32))), .val (.int (((((p3.toUInt32 >>> ((2 : Int32) &&& 31).toUInt32).toInt32) &&& (3 : Int32)) % (3 : Int32)) + (1 : Int32))), .val (.int (((p3.toUInt32 >>> ((4 : Int32) &&& 31).toUInt32).toInt32) &&& (3 : Int32))), .val (.int (p0 &&& (255 : Int32)).toUInt32.toUInt16.toUInt32.toInt32), .val (.int (p1 &&& (255 : Int32)).toUInt32.toUInt16.toUInt32.toInt32), .val (.int (p2 &&& (255 : Int32)).toUInt32.toUInt16.toUInt32.toInt32), .val (.int ((p0 + (((p3.toUInt32 >>> ((8 : Int32) &&& 31).toUInt32).toInt32) &&& (255 : Int32))) &&& (255 : Int32)).toUInt32.toUInt16.toUInt32.toInt32), .val (.int ((p1 + (((p3.toUInt32 >>> ((16 : Int32) &&& 31).toUInt32).toInt32) &&& (255 : Int32))) &&& (255 : Int32)).toUInt32.toUInt16.toUInt32.toInt32), .val (.int ((p2 + (((p3.toUInt32 >>> ((24 : Int32) &&& 31).toUInt32).toInt32) &&& (255 : Int32))) &&& (255 : Int32)).toUInt32.toUInt16.toUInt32.toInt32), .unset, .unset, .unset, .unset, .unset] [])) (fun _ kt_ => XS.istore X0.here hx rfl (hb hby at_100) rfl (l' := #[.val (.int p0), .val (.int p1), .val (.int p2), .val (.int p3), .val (.int (((p3 &&& (3 : Int32)) % (3 : Int32)) + (1 : Int32))), .val (.int (((((p3.toUInt32 >>> ((2 : Int32) &&& 31).toUInt32).toInt32) &&& (3 : Int32)) % (3 : Int32)) + (1 : Int32))), .val (.int (((p3.toUInt32 >>> ((4 : Int32) &&& 31).toUInt32).toInt32) &&& (3 : Int32))), .val (.int (p0 &&& (255 : Int32)).toUInt32.toUInt16.toUInt32.toInt32), .val (.int (p1 &&& (255 : Int32)).toUInt32.toUInt16.toUInt32.toInt32), .val (.int (p2 &&& (255 : Int32)).toUInt32.toUInt16.toUInt32.toInt32), .val (.int ((p0 + (((p3.toUInt32 >>> ((8 : Int32) &&& 31).toUInt32).toInt32) &&& (255 : Int32))) &&& (255 : Int32)).toUInt32.toUInt16.toUInt32.toInt32), .val (.int ((p1 + (((p3.toUInt32 >>> ((16 : Int32) &&& 31).toUInt32).toInt32) &&& (255 : Int32))) &&& (255 : Int32)).toUInt32.toUInt16.toUInt32.toInt32), .val (.int ((p2 + (((p3.toUInt32 >>> ((24 : Int32) &&& 31).toUInt32).toInt32) &&& (255 : Int32))) &&& (255 : Int32)).toUInt32.toUInt16.toUInt32.toInt32), .unset, .unset, .unset, .unset, .unset]) rfl kt_) ?_
  exact J1 s₁ _  X0 e0  N0 (((p3 &&& (3 : Int32)) % (3 : Int32)) + (1 : Int32)) (((((p3.toUInt32 >>> ((2 : Int32) &&& 31).toUInt32).toInt32) &&& (3 : Int32)) % (3 : Int32)) + (1 : Int32)) ((p0 &&& (255 : Int32)).toUInt32.toUInt16.toUInt32.toInt32) ((p1 &&& (255 : Int32)).toUInt32.toUInt16.toUInt32.toInt32) ((p2 &&& (255 : Int32)).toUInt32.toUInt16.toUInt32.toInt32) (((p0 + (((p3.toUInt32 >>> ((8 : Int32) &&& 31).toUInt32).toInt32) &&& (255 : Int32))) &&& (255 : Int32)).toUInt32.toUInt16.toUInt32.toInt32) (((p1 + (((p3.toUInt32 >>> ((16 : Int32) &&& 31).toUInt32).toInt32) &&& (255 : Int32))) &&& (255 : Int32)).toUInt32.toUInt16.toUInt32.toInt32) (((p2 + (((p3.toUInt32 >>> ((24 : Int32) &&& 31).toUInt32).toInt32) &&& (255 : Int32))) &&& (255 : Int32)).toUInt32.toUInt16.toUInt32.toInt32)  ⟨own_len3 _, own_len3 _, own_ok _, own_ok _, own_ok _, own_ok _, own_ok _, own_ok _⟩
set_option maxRecDepth 65536 in
set_option maxHeartbeats 40000000 in
theorem comes_1 {Post : Tables → Env → Array Value → State → Outcome → State → Prop} (hpost : ∀ tb e args s v u, (limb_1_1.after args s (.returned v) u = true ∧ limb_1_2.after args s (.returned v) u = true ∧ True) → ReturnedEndW s (.returned v) u (Jvm.fieldLocs frame_1_writes args s ++ Jvm.arrayLocs frame_1_arrays args s ++ Jvm.staticLocs frame_1_statics s) 32 1152 → Post tb e args s (.returned v) u) :
    ArmFor flags0 classFile x code maxLocals ret World_1 tables_1 room_1 Calls_1 rest_1 Pre_1 Post := by
  intro l hfl _ _ p e ha hc hk s m args below hf hA hF happ hP
  obtain ⟨hcalls, hrest, hpre⟩ := hP
  obtain ⟨-, -, -, hnamed, -, -, -, hat⟩ := (Spec.applies_iff hf).mp happ
  obtain ⟨hg, hn⟩ := and_e (Cond.before_iff.mp (show (Jvm.Cond.and given_1 narrow_1).before args s = true from hpre))
  obtain ⟨g1a, g1b⟩ := and_e hg
  obtain ⟨g2a, g2b⟩ := and_e g1b
  obtain ⟨g3a, g3b⟩ := and_e g2b
  obtain ⟨g4a, g4b⟩ := and_e g3b
  obtain ⟨w0, w1, w2, w3, rfl⟩ : ∃ w0 w1 w2 w3 : Value, args = #[w0, w1, w2, w3] := by
    have hs : args.size = 4 := by simpa [Cond.value, given_1] using g1a
    obtain ⟨L⟩ := args
    match L, hs with
    | [w0, w1, w2, w3], _ => exact ⟨w0, w1, w2, w3, rfl⟩
  have hw := fun d (hd : d ∈ tables_1) => atoms_spec (ws := Jvm.Cond.code x code maxLocals ret :: tables_1) hat d (List.mem_cons_of_mem _ hd)
  have hfit : Fit s := fun {y c} hc i hi => by
    obtain ⟨ha, rfl⟩ := Array.getElem?_eq_some_iff.mp hc
    have q := List.all_eq_true.mp ((Array.all_eq_true_iff_forall_mem.mp hF) _ (Array.getElem_mem ha)) i (List.mem_range.mpr hi)
    simpa [Array.getElem?_eq_getElem hi] using q
  obtain ⟨i0, ei0⟩ := is_v g2a
  obtain rfl : w0 = (.int i0) := Option.some.inj ei0
  obtain ⟨i1, ei1⟩ := is_v g3a
  obtain rfl : w1 = (.int i1) := Option.some.inj ei1
  obtain ⟨i2, ei2⟩ := is_v g4a
  obtain rfl : w2 = (.int i2) := Option.some.inj ei2
  obtain ⟨i3, ei3⟩ := is_v g4b
  obtain rfl : w3 = (.int i3) := Option.some.inj ei3
  obtain ⟨hsets, hown0⟩ := atoms_of _ (rest_1_c_eq ▸ (show rest_1_c.before _ s = true from hrest))
  obtain ⟨zC, ev_zC⟩ := is_v (Cond.before_iff.mp (hsets _ (List.mem_of_getElem? (i := 1) rfl)))
  have sta_zC := Sta.start ev_zC (Or.inl (Cond.before_iff.mpr (Cond.before_iff.mp (hsets _ (List.mem_of_getElem? (i := 0) rfl)))))
  have ncmp : ¬ zC = (0 : Int32) := gotF (Cond.eq_ints ev_zC (Term.int_eval (0 : Int32))) (not_v (Cond.before_iff.mp (hsets _ (List.mem_of_getElem? (i := 2) rfl))))
  have GS : Glob s zC := ⟨sta_zC, ncmp⟩
  obtain ⟨n, o, h1, h2, h3, _, L, rfl, ⟨rfl, N⟩, hq⟩ := rm0 l s _ hw tables_1 zC GS i0 i1 i2 i3 s.heap s.heap.size (Nat.le_refl _) (Old.start s) p e ha hc hk s m _ below hf ((Spec.applies_iff_loose hf).mp happ).1 ⟨rfl, State.Warmed39.refl s, rfl⟩ trivial
  refine ⟨n, _, h1, h2, h3, hpost _ _ _ _ _ _ ⟨Cond.after_iff.mpr rfl, Cond.after_iff.mpr (eq_i res_at (Term.int_eval (1)) rfl), trivial⟩ ⟨hq.1, hq.2.1, hq.2.2.1, (hq.2.2.2.sift fun y hy => Or.inr (N y hy)).mono (by decide) (by decide)⟩⟩
theorem main_1_1 : Claimed_1_1 := comes_1 fun _ _ _ _ _ _ h hF => ⟨h.1, hF⟩
theorem main_1_2 : Claimed_1_2 := comes_1 fun _ _ _ _ _ _ h hF => ⟨h.2.1, hF⟩
end Jvm.Pilot.@@N@@
namespace Jvm.Pilot.@@N@@
open Jvm Jvm.ClassFile Sem Op Lib Jvm.Free Jvm.Stand Jvm.Pilot.@@N@@.Jvm.D
/-! MADE BY PROGRAM (witnessworld.py) out of the Statement's table words and the real class files: 21 classes; the members and pool entries that the words name. The judged class is class 1, her method 2. -/
namespace start1
open Jvm.ClassFile
def u (s : String) : CpInfo := .utf8 (stringToUtf16 s)
/-- a pool by its gaps: so many unusable entries, then the entry; so many at the end -/
def gap : Nat → List CpInfo → List CpInfo
  | 0, r => r
  | n + 1, r => .unusable :: gap n r
def poolList (es : List (Nat × CpInfo)) (last : Nat) : List CpInfo := es.foldr (fun e r => gap e.1 (e.2 :: r)) (gap last [])
def pool (es : List (Nat × CpInfo)) (last : Nat) : Array CpInfo := ⟨poolList es last⟩
def fileOf (pool : Array CpInfo) (this : Nat) (attrs : Array Attribute := #[]) (ms : Array MethodInfo := #[]) (fl : Nat := 33) (sup : Nat := 0) (ifs : Array Nat := #[]) (fds : Array FieldInfo := #[]) : ClassFile where
  minorVersion := 0
  majorVersion := 65
  constantPool := pool
  accessFlags := fl
  thisClass := this
  superClass := sup
  interfaces := ifs
  fields := fds
  methods := ms
  attributes := attrs
def plain (name : String) (sup : Option ClassId) : Class where
  name := name
  kind := .ordinary
  loader := none
  accessFlags := 33
  super := sup
  interfaces := #[]
  cf := none
  fields := #[]
  methods := #[]
  instanceTypes := #[]
  staticTypes := #[]
  resolved := #[]
  callSites := []
  init := .initialized
  statics := none
  mirror := none

def pool0 : Array CpInfo := pool [(5, u "<init>"), (0, u "()V"), (1, .class_ 10), (1, u "java/lang/Object")] 113

def k0c0 : Code := { maxStack := 0, maxLocals := 1, code := object_method_1_code, exceptionTable := #[], attributes := #[] }
def k0m0 : Method := { name := "<init>", desc := "()V", sig := { parameters := [], returnType := none }, accessFlags := 1, code := some k0c0 }
/-- java/lang/Object -/
def k0 : Class := { plain "java/lang/Object" none with
  accessFlags := 33
  interfaces := #[]
  cf := some (fileOf pool0 8 #[] #[{ accessFlags := 1, nameIndex := 5, descriptorIndex := 6, attributes := #[] }] 33 0 #[] #[])
  fields := #[]
  methods := #[k0m0]
  instanceTypes := #[]
  staticTypes := #[]
  resolved := Array.replicate 124 none
  statics := none }

def pool1 : Array CpInfo := pool [(2, .class_ 4), (1, u "java/lang/Object"), (0, u "<init>"), (0, u "()V"), (0, .class_ 8), (0, u "java/lang/String"), (0, .methodref 7 10), (0, .nameAndType 5 11), (0, u "([C)V"), (0, .methodref 13 14), (0, .class_ 15), (0, .nameAndType 16 17), (0, u "com/example/dependency_wiring/dependencywiring/BeanNameReferenceEqualsPinLaw"), (0, u "mk"), (0, u "(ICCC)Ljava/lang/String;"), (0, .class_ 19), (0, u "com/example/dependency_wiring/dependencywiring/BeanNameReference"), (0, .methodref 18 21), (0, .nameAndType 5 22), (0, u "(Ljava/lang/String;)V"), (0, .methodref 18 24), (0, .nameAndType 25 26), (0, u "equals"), (0, u "(Ljava/lang/Object;)Z"), (3, u "law"), (0, u "(IIII)Z")] 2

def k1m0 : Method := { name := "<init>", desc := "()V", sig := { parameters := [], returnType := none }, accessFlags := 1, code := none }
def k1c1 : Code := { maxStack := 6, maxLocals := 4, code := method_2_code, exceptionTable := #[], attributes := #[] }
def k1m1 : Method := { name := "mk", desc := "(ICCC)Ljava/lang/String;", sig := { parameters := [.int, .char, .char, .char], returnType := some (.object "java/lang/String") }, accessFlags := 10, code := some k1c1 }
def k1c2 : Code := { maxStack := 4, maxLocals := 18, code := code, exceptionTable := #[], attributes := #[] }
def k1m2 : Method := { name := "law", desc := "(IIII)Z", sig := { parameters := [.int, .int, .int, .int], returnType := some .boolean }, accessFlags := 9, code := some k1c2 }
/-- com/example/dependency_wiring/dependencywiring/BeanNameReferenceEqualsPinLaw -/
def k1 : Class := { plain "com/example/dependency_wiring/dependencywiring/BeanNameReferenceEqualsPinLaw" (some 0) with
  accessFlags := 49
  interfaces := #[]
  cf := some (fileOf pool1 13 #[] #[{ accessFlags := 1, nameIndex := 5, descriptorIndex := 6, attributes := #[] }, { accessFlags := 10, nameIndex := 16, descriptorIndex := 17, attributes := #[] }, { accessFlags := 9, nameIndex := 30, descriptorIndex := 31, attributes := #[] }] 49 2 #[] #[])
  fields := #[]
  methods := #[k1m0, k1m1, k1m2]
  instanceTypes := #[]
  staticTypes := #[]
  resolved := Array.replicate 34 none
  statics := none }

def pool2 : Array CpInfo := pool [(1, .class_ 2), (0, u "java/io/Serializable"), (0, .class_ 4), (0, u "java/lang/Object")] 2

/-- java/io/Serializable -/
def k2 : Class := { plain "java/io/Serializable" (some 0) with
  accessFlags := 1537
  interfaces := #[]
  cf := some (fileOf pool2 1 #[] #[] 1537 3 #[] #[])
  fields := #[]
  methods := #[]
  instanceTypes := #[]
  staticTypes := #[]
  resolved := Array.replicate 7 none
  statics := none }

def pool3 : Array CpInfo := pool [(1, .class_ 2), (0, u "java/lang/Comparable"), (0, .class_ 4), (0, u "java/lang/Object")] 7

/-- java/lang/Comparable -/
def k3 : Class := { plain "java/lang/Comparable" (some 0) with
  accessFlags := 1537
  interfaces := #[]
  cf := some (fileOf pool3 1 #[] #[] 1537 3 #[] #[])
  fields := #[]
  methods := #[]
  instanceTypes := #[]
  staticTypes := #[]
  resolved := Array.replicate 12 none
  statics := none }

def pool4 : Array CpInfo := pool [(2, .class_ 4), (1, u "java/lang/CharSequence"), (42, .class_ 48), (0, u "java/lang/CharSequence$1CodePointIterator"), (10, .class_ 60), (0, u "java/lang/CharSequence$1CharIterator"), (5, .class_ 67), (0, u "java/lang/Object")] 63

/-- java/lang/CharSequence -/
def k4 : Class := { plain "java/lang/CharSequence" (some 0) with
  accessFlags := 1537
  interfaces := #[]
  cf := some (fileOf pool4 2 #[.nestMembers #[47, 59]] #[] 1537 66 #[] #[])
  fields := #[]
  methods := #[]
  instanceTypes := #[]
  staticTypes := #[]
  resolved := Array.replicate 131 none
  statics := none }

def pool5 : Array CpInfo := pool [(1, .class_ 2), (0, u "java/lang/constant/Constable"), (0, .class_ 4), (0, u "java/lang/Object")] 6

/-- java/lang/constant/Constable -/
def k5 : Class := { plain "java/lang/constant/Constable" (some 0) with
  accessFlags := 1537
  interfaces := #[]
  cf := some (fileOf pool5 1 #[] #[] 1537 3 #[] #[])
  fields := #[]
  methods := #[]
  instanceTypes := #[]
  staticTypes := #[]
  resolved := Array.replicate 11 none
  statics := none }

def pool6 : Array CpInfo := pool [(1, .class_ 2), (0, u "java/lang/constant/ConstantDesc"), (0, .class_ 4), (0, u "java/lang/Object")] 32

/-- java/lang/constant/ConstantDesc -/
def k6 : Class := { plain "java/lang/constant/ConstantDesc" (some 0) with
  accessFlags := 1537
  interfaces := #[]
  cf := some (fileOf pool6 1 #[] #[] 1537 3 #[] #[])
  fields := #[]
  methods := #[]
  instanceTypes := #[]
  staticTypes := #[]
  resolved := Array.replicate 37 none
  statics := none }

def pool7 : Array CpInfo := pool [(1, .methodref 2 3), (0, .class_ 4), (0, .nameAndType 5 6), (0, u "java/lang/Object"), (0, u "<init>"), (0, u "()V"), (2, .fieldref 10 11), (0, .class_ 12), (0, .nameAndType 13 14), (0, u "java/lang/String"), (0, u "value"), (0, u "[B"), (0, .fieldref 10 16), (0, .nameAndType 17 18), (0, u "coder"), (0, u "B"), (2, u "hash"), (0, u "I"), (2, u "hashIsZero"), (0, u "Z"), (0, .methodref 10 28), (0, .nameAndType 5 29), (0, u "([CIILjava/lang/Void;)V"), (8, .fieldref 10 39), (0, .nameAndType 40 26), (0, u "COMPACT_STRINGS"), (1, .class_ 44), (1, u "java/lang/StringUTF16"), (0, u "compress"), (1, .methodref 42 48), (0, .nameAndType 49 50), (0, u "coderFromArrayLen"), (0, u "([BI)B"), (56, .class_ 109), (1, u "java/lang/StringLatin1"), (32, u "()Z"), (34, .methodref 42 178), (0, .nameAndType 45 179), (0, u "([CII)[B"), (361, .methodref 107 542), (0, .nameAndType 543 544), (0, u "equals"), (0, u "([B[B)Z"), (28, u "(Ljava/lang/Object;)Z"), (1, .class_ 576), (0, u "java/lang/CharSequence"), (22, u "CASE_INSENSITIVE_ORDER"), (0, u "Ljava/util/Comparator;"), (91, u "isEmpty"), (317, u "([C)V"), (90, u "serialPersistentFields"), (0, u "[Ljava/io/ObjectStreamField;"), (0, .class_ 1104), (0, u "java/lang/String$CaseInsensitiveComparator"), (1, .class_ 1107), (0, u "java/io/Serializable"), (0, .class_ 1109), (0, u "java/lang/Comparable"), (0, .class_ 1111), (0, u "java/lang/constant/Constable"), (0, .class_ 1113), (0, u "java/lang/constant/ConstantDesc"), (2, u "serialVersionUID"), (0, u "J"), (3, u "REPL"), (0, u "C"), (2, u "LATIN1"), (1, u "UTF16")] 323

def k7m0 : Method := { name := "<init>", desc := "()V", sig := { parameters := [], returnType := none }, accessFlags := 1, code := none }
def k7c1 : Code := { maxStack := 5, maxLocals := 2, code := jdk_42_method_3_code, exceptionTable := #[], attributes := #[] }
def k7m1 : Method := { name := "<init>", desc := "([C)V", sig := { parameters := [(.array .char)], returnType := none }, accessFlags := 1, code := some k7c1 }
def k7c2 : Code := { maxStack := 1, maxLocals := 1, code := jdk_42_method_55_code, exceptionTable := #[], attributes := #[] }
def k7m2 : Method := { name := "isEmpty", desc := "()Z", sig := { parameters := [], returnType := some .boolean }, accessFlags := 1, code := some k7c2 }
def k7c3 : Code := { maxStack := 2, maxLocals := 3, code := jdk_42_method_66_code, exceptionTable := #[], attributes := #[] }
def k7m3 : Method := { name := "equals", desc := "(Ljava/lang/Object;)Z", sig := { parameters := [(.object "java/lang/Object")], returnType := some .boolean }, accessFlags := 1, code := some k7c3 }
def k7c4 : Code := { maxStack := 4, maxLocals := 6, code := jdk_42_method_149_code, exceptionTable := #[], attributes := #[] }
def k7m4 : Method := { name := "<init>", desc := "([CIILjava/lang/Void;)V", sig := { parameters := [(.array .char), .int, .int, (.object "java/lang/Void")], returnType := none }, accessFlags := 2, code := some k7c4 }
/-- java/lang/String -/
def k7 : Class := { plain "java/lang/String" (some 0) with
  accessFlags := 49
  interfaces := #[2, 3, 4, 5, 6]
  cf := some (fileOf pool7 10 #[.nestMembers #[1103]] #[{ accessFlags := 1, nameIndex := 5, descriptorIndex := 6, attributes := #[] }, { accessFlags := 1, nameIndex := 5, descriptorIndex := 1010, attributes := #[] }, { accessFlags := 1, nameIndex := 692, descriptorIndex := 142, attributes := #[] }, { accessFlags := 1, nameIndex := 543, descriptorIndex := 573, attributes := #[] }, { accessFlags := 2, nameIndex := 5, descriptorIndex := 29, attributes := #[] }] 49 2 #[1106, 1108, 575, 1110, 1112] #[{ accessFlags := 18, nameIndex := 13, descriptorIndex := 14, attributes := #[] }, { accessFlags := 18, nameIndex := 17, descriptorIndex := 18, attributes := #[] }, { accessFlags := 2, nameIndex := 21, descriptorIndex := 22, attributes := #[] }, { accessFlags := 2, nameIndex := 25, descriptorIndex := 26, attributes := #[] }, { accessFlags := 26, nameIndex := 1116, descriptorIndex := 1117, attributes := #[] }, { accessFlags := 24, nameIndex := 40, descriptorIndex := 26, attributes := #[] }, { accessFlags := 26, nameIndex := 1101, descriptorIndex := 1102, attributes := #[] }, { accessFlags := 26, nameIndex := 1121, descriptorIndex := 1122, attributes := #[] }, { accessFlags := 25, nameIndex := 599, descriptorIndex := 600, attributes := #[] }, { accessFlags := 24, nameIndex := 1125, descriptorIndex := 18, attributes := #[] }, { accessFlags := 24, nameIndex := 1127, descriptorIndex := 18, attributes := #[] }])
  fields := #[{ name := "value", type := (.array .byte), accessFlags := 18, slot := 0, constantValue := 0 }, { name := "coder", type := .byte, accessFlags := 18, slot := 1, constantValue := 0 }, { name := "hash", type := .int, accessFlags := 2, slot := 2, constantValue := 0 }, { name := "hashIsZero", type := .boolean, accessFlags := 2, slot := 3, constantValue := 0 }, { name := "serialVersionUID", type := .long, accessFlags := 26, slot := 0, constantValue := 0 }, { name := "COMPACT_STRINGS", type := .boolean, accessFlags := 24, slot := 1, constantValue := 0 }, { name := "serialPersistentFields", type := (.array (.object "java/io/ObjectStreamField")), accessFlags := 26, slot := 2, constantValue := 0 }, { name := "REPL", type := .char, accessFlags := 26, slot := 3, constantValue := 0 }, { name := "CASE_INSENSITIVE_ORDER", type := (.object "java/util/Comparator"), accessFlags := 25, slot := 4, constantValue := 0 }, { name := "LATIN1", type := .byte, accessFlags := 24, slot := 5, constantValue := 0 }, { name := "UTF16", type := .byte, accessFlags := 24, slot := 6, constantValue := 0 }]
  methods := #[k7m0, k7m1, k7m2, k7m3, k7m4]
  instanceTypes := #[(.array .byte), .byte, .int, .boolean]
  staticTypes := #[.long, .boolean, (.array (.object "java/io/ObjectStreamField")), .char, (.object "java/util/Comparator"), .byte, .byte]
  resolved := Array.replicate 1451 none
  statics := some 0 }

def pool8 : Array CpInfo := pool [(6, .class_ 8), (1, u "java/lang/Object"), (0, u "<init>"), (0, u "()V"), (1, .class_ 14), (1, u "java/lang/StringUTF16"), (31, u "$assertionsDisabled"), (0, u "Z"), (13, u "HI_BYTE_SHIFT"), (0, u "I"), (2, u "LO_BYTE_SHIFT"), (49, .methodref 12 116), (0, .nameAndType 117 118), (0, u "compress"), (0, u "([CI[BII)I"), (3, u "([CII)[B"), (138, u "coderFromArrayLen"), (0, u "([BI)B"), (106, .class_ 371), (1, u "java/lang/StringUTF16$LinesSpliterator"), (58, u "MAX_LENGTH"), (196, .class_ 628), (0, u "java/lang/StringUTF16$CodePointsSpliterator"), (0, .class_ 630), (0, u "java/lang/StringUTF16$CharsSpliterator")] 4

def k8m0 : Method := { name := "<init>", desc := "()V", sig := { parameters := [], returnType := none }, accessFlags := 0, code := none }
def k8c1 : Code := { maxStack := 2, maxLocals := 2, code := jdk_52_method_15_code, exceptionTable := #[], attributes := #[] }
def k8m1 : Method := { name := "coderFromArrayLen", desc := "([BI)B", sig := { parameters := [(.array .byte), .int], returnType := some .byte }, accessFlags := 8, code := some k8c1 }
def k8c2 : Code := { maxStack := 5, maxLocals := 6, code := jdk_52_method_16_code, exceptionTable := #[], attributes := #[] }
def k8m2 : Method := { name := "compress", desc := "([CII)[B", sig := { parameters := [(.array .char), .int, .int], returnType := some (.array .byte) }, accessFlags := 9, code := some k8c2 }
def k8c3 : Code := { maxStack := 3, maxLocals := 7, code := jdk_52_method_21_code, exceptionTable := #[], attributes := #[] }
def k8m3 : Method := { name := "compress", desc := "([CI[BII)I", sig := { parameters := [(.array .char), .int, (.array .byte), .int, .int], returnType := some .int }, accessFlags := 9, code := some k8c3 }
/-- java/lang/StringUTF16 -/
def k8 : Class := { plain "java/lang/StringUTF16" (some 0) with
  accessFlags := 48
  interfaces := #[]
  cf := some (fileOf pool8 12 #[.nestMembers #[627, 629, 369]] #[{ accessFlags := 0, nameIndex := 9, descriptorIndex := 10, attributes := #[] }, { accessFlags := 8, nameIndex := 261, descriptorIndex := 262, attributes := #[] }, { accessFlags := 9, nameIndex := 117, descriptorIndex := 122, attributes := #[] }, { accessFlags := 9, nameIndex := 117, descriptorIndex := 118, attributes := #[] }] 48 6 #[] #[{ accessFlags := 26, nameIndex := 61, descriptorIndex := 62, attributes := #[] }, { accessFlags := 26, nameIndex := 65, descriptorIndex := 62, attributes := #[] }, { accessFlags := 24, nameIndex := 430, descriptorIndex := 62, attributes := #[] }, { accessFlags := 4120, nameIndex := 46, descriptorIndex := 47, attributes := #[] }])
  fields := #[{ name := "HI_BYTE_SHIFT", type := .int, accessFlags := 26, slot := 0, constantValue := 0 }, { name := "LO_BYTE_SHIFT", type := .int, accessFlags := 26, slot := 1, constantValue := 0 }, { name := "MAX_LENGTH", type := .int, accessFlags := 24, slot := 2, constantValue := 0 }, { name := "$assertionsDisabled", type := .boolean, accessFlags := 4120, slot := 3, constantValue := 0 }]
  methods := #[k8m0, k8m1, k8m2, k8m3]
  instanceTypes := #[]
  staticTypes := #[.int, .int, .int, .boolean]
  resolved := Array.replicate 635 none
  statics := none }

def pool9 : Array CpInfo := pool [(1, .methodref 2 3), (0, .class_ 4), (0, .nameAndType 5 6), (0, u "java/lang/Object"), (0, u "<init>"), (0, u "()V"), (0, .string 8), (0, u "beanName"), (0, .methodref 10 11), (0, .class_ 12), (0, .nameAndType 13 14), (0, u "java/util/Objects"), (0, u "requireNonNull"), (0, u "(Ljava/lang/Object;Ljava/lang/String;)Ljava/lang/Object;"), (0, .class_ 16), (0, u "java/lang/String"), (0, .methodref 15 18), (0, .nameAndType 19 20), (0, u "isEmpty"), (0, u "()Z"), (6, u "(Ljava/lang/String;)V"), (0, .fieldref 29 30), (0, .class_ 31), (0, .nameAndType 8 32), (0, u "com/example/dependency_wiring/dependencywiring/BeanNameReference"), (0, u "Ljava/lang/String;"), (0, .methodref 15 34), (0, .nameAndType 35 36), (0, u "equals"), (0, u "(Ljava/lang/Object;)Z")] 31

def k9c0 : Code := { maxStack := 3, maxLocals := 2, code := prog_21_method_1_code, exceptionTable := #[], attributes := #[] }
def k9m0 : Method := { name := "<init>", desc := "(Ljava/lang/String;)V", sig := { parameters := [(.object "java/lang/String")], returnType := none }, accessFlags := 1, code := some k9c0 }
def k9c1 : Code := { maxStack := 2, maxLocals := 3, code := prog_21_method_3_code, exceptionTable := #[], attributes := #[] }
def k9m1 : Method := { name := "equals", desc := "(Ljava/lang/Object;)Z", sig := { parameters := [(.object "java/lang/Object")], returnType := some .boolean }, accessFlags := 1, code := some k9c1 }
/-- com/example/dependency_wiring/dependencywiring/BeanNameReference -/
def k9 : Class := { plain "com/example/dependency_wiring/dependencywiring/BeanNameReference" (some 0) with
  accessFlags := 33
  interfaces := #[]
  cf := some (fileOf pool9 29 #[] #[{ accessFlags := 1, nameIndex := 5, descriptorIndex := 27, attributes := #[] }, { accessFlags := 1, nameIndex := 35, descriptorIndex := 36, attributes := #[] }] 33 2 #[] #[{ accessFlags := 18, nameIndex := 8, descriptorIndex := 32, attributes := #[] }])
  fields := #[{ name := "beanName", type := (.object "java/lang/String"), accessFlags := 18, slot := 0, constantValue := 0 }]
  methods := #[k9m0, k9m1]
  instanceTypes := #[(.object "java/lang/String")]
  staticTypes := #[]
  resolved := Array.replicate 68 none
  statics := none }

def pool10 : Array CpInfo := pool [(2, .class_ 4), (1, u "java/lang/Object"), (0, u "<init>"), (0, u "()V"), (35, .class_ 44), (1, u "java/util/Objects"), (0, u "requireNonNull"), (48, u "(Ljava/lang/Object;Ljava/lang/String;)Ljava/lang/Object;")] 89

def k10m0 : Method := { name := "<init>", desc := "()V", sig := { parameters := [], returnType := none }, accessFlags := 2, code := none }
def k10c1 : Code := { maxStack := 3, maxLocals := 2, code := jdk_31_method_11_code, exceptionTable := #[], attributes := #[] }
def k10m1 : Method := { name := "requireNonNull", desc := "(Ljava/lang/Object;Ljava/lang/String;)Ljava/lang/Object;", sig := { parameters := [(.object "java/lang/Object"), (.object "java/lang/String")], returnType := some (.object "java/lang/Object") }, accessFlags := 9, code := some k10c1 }
/-- java/util/Objects -/
def k10 : Class := { plain "java/util/Objects" (some 0) with
  accessFlags := 49
  interfaces := #[]
  cf := some (fileOf pool10 42 #[] #[{ accessFlags := 2, nameIndex := 5, descriptorIndex := 6, attributes := #[] }, { accessFlags := 9, nameIndex := 45, descriptorIndex := 94, attributes := #[] }] 49 2 #[] #[])
  fields := #[]
  methods := #[k10m0, k10m1]
  instanceTypes := #[]
  staticTypes := #[]
  resolved := Array.replicate 184 none
  statics := none }

def pool11 : Array CpInfo := pool [(4, .class_ 6), (1, u "java/lang/Object"), (0, u "<init>"), (0, u "()V"), (5, .class_ 16), (1, u "java/lang/StringLatin1"), (104, u "$assertionsDisabled"), (0, u "Z"), (98, .class_ 223), (1, u "java/lang/StringLatin1$LinesSpliterator"), (57, u "equals"), (0, u "([B[B)Z"), (107, .class_ 391), (0, u "java/lang/StringLatin1$CharsSpliterator")] 3

def k11m0 : Method := { name := "<init>", desc := "()V", sig := { parameters := [], returnType := none }, accessFlags := 0, code := none }
def k11c1 : Code := { maxStack := 3, maxLocals := 3, code := jdk_43_method_13_code, exceptionTable := #[], attributes := #[] }
def k11m1 : Method := { name := "equals", desc := "([B[B)Z", sig := { parameters := [(.array .byte), (.array .byte)], returnType := some .boolean }, accessFlags := 9, code := some k11c1 }
/-- java/lang/StringLatin1 -/
def k11 : Class := { plain "java/lang/StringLatin1" (some 0) with
  accessFlags := 48
  interfaces := #[]
  cf := some (fileOf pool11 14 #[.nestMembers #[390, 221]] #[{ accessFlags := 0, nameIndex := 7, descriptorIndex := 8, attributes := #[] }, { accessFlags := 9, nameIndex := 281, descriptorIndex := 282, attributes := #[] }] 48 4 #[] #[{ accessFlags := 4120, nameIndex := 121, descriptorIndex := 122, attributes := #[] }])
  fields := #[{ name := "$assertionsDisabled", type := .boolean, accessFlags := 4120, slot := 0, constantValue := 0 }]
  methods := #[k11m0, k11m1]
  instanceTypes := #[]
  staticTypes := #[.boolean]
  resolved := Array.replicate 395 none
  statics := none }

def pool12 : Array CpInfo := pool [(2, .class_ 4), (1, u "java/lang/Object"), (0, u "<init>"), (0, u "()V"), (17, .class_ 26), (1, u "jdk/internal/util/Preconditions"), (28, .class_ 56), (0, u "jdk/internal/util/Preconditions$4"), (57, .class_ 115), (0, u "jdk/internal/util/Preconditions$1"), (7, u "SIOOBE_FORMATTER"), (0, u "Ljava/util/function/BiFunction;"), (0, .class_ 126), (0, u "jdk/internal/util/Preconditions$2"), (3, u "AIOOBE_FORMATTER"), (0, .class_ 132), (0, u "jdk/internal/util/Preconditions$3"), (3, u "IOOBE_FORMATTER")] 57

def k12m0 : Method := { name := "<init>", desc := "()V", sig := { parameters := [], returnType := none }, accessFlags := 1, code := none }
/-- jdk/internal/util/Preconditions -/
def k12 : Class := { plain "jdk/internal/util/Preconditions" (some 0) with
  accessFlags := 33
  interfaces := #[]
  cf := some (fileOf pool12 24 #[.nestMembers #[55, 131, 125, 114]] #[{ accessFlags := 1, nameIndex := 5, descriptorIndex := 6, attributes := #[] }] 33 2 #[] #[{ accessFlags := 25, nameIndex := 123, descriptorIndex := 124, attributes := #[] }, { accessFlags := 25, nameIndex := 130, descriptorIndex := 124, attributes := #[] }, { accessFlags := 25, nameIndex := 136, descriptorIndex := 124, attributes := #[] }])
  fields := #[{ name := "SIOOBE_FORMATTER", type := (.object "java/util/function/BiFunction"), accessFlags := 25, slot := 0, constantValue := 0 }, { name := "AIOOBE_FORMATTER", type := (.object "java/util/function/BiFunction"), accessFlags := 25, slot := 1, constantValue := 0 }, { name := "IOOBE_FORMATTER", type := (.object "java/util/function/BiFunction"), accessFlags := 25, slot := 2, constantValue := 0 }]
  methods := #[k12m0]
  instanceTypes := #[]
  staticTypes := #[(.object "java/util/function/BiFunction"), (.object "java/util/function/BiFunction"), (.object "java/util/function/BiFunction")]
  resolved := Array.replicate 194 none
  statics := some 1 }

def pool13 : Array CpInfo := pool [(9, u "<init>"), (6, .class_ 18), (1, u "java/lang/Object"), (0, u "()V"), (1, .class_ 23), (1, u "jdk/internal/util/ArraysSupport"), (0, u "LOG2_ARRAY_LONG_INDEX_SCALE"), (0, u "I"), (2, u "U"), (0, u "Ljdk/internal/misc/Unsafe;"), (8, u "BIG_ENDIAN"), (0, u "Z"), (8, u "LOG2_BYTE_BIT_SIZE"), (4, u "LOG2_ARRAY_INT_INDEX_SCALE"), (54, u "JLA"), (0, u "Ljdk/internal/access/JavaLangAccess;"), (11, u "LOG2_ARRAY_BOOLEAN_INDEX_SCALE"), (9, u "LOG2_ARRAY_BYTE_INDEX_SCALE"), (5, u "LOG2_ARRAY_CHAR_INDEX_SCALE"), (5, u "LOG2_ARRAY_SHORT_INDEX_SCALE"), (18, u "LOG2_ARRAY_FLOAT_INDEX_SCALE"), (24, u "LOG2_ARRAY_DOUBLE_INDEX_SCALE"), (89, u "T_BOOLEAN"), (2, u "T_CHAR"), (1, u "T_FLOAT"), (1, u "T_DOUBLE"), (1, u "T_BYTE"), (1, u "T_SHORT"), (1, u "T_INT"), (1, u "T_LONG"), (1, u "SOFT_MAX_ARRAY_LENGTH")] 83

def k13m0 : Method := { name := "<init>", desc := "()V", sig := { parameters := [], returnType := none }, accessFlags := 2, code := none }
/-- jdk/internal/util/ArraysSupport -/
def k13 : Class := { plain "jdk/internal/util/ArraysSupport" (some 0) with
  accessFlags := 33
  interfaces := #[]
  cf := some (fileOf pool13 21 #[] #[{ accessFlags := 2, nameIndex := 9, descriptorIndex := 19, attributes := #[] }] 33 16 #[] #[{ accessFlags := 24, nameIndex := 28, descriptorIndex := 29, attributes := #[] }, { accessFlags := 26, nameIndex := 38, descriptorIndex := 39, attributes := #[] }, { accessFlags := 25, nameIndex := 121, descriptorIndex := 25, attributes := #[] }, { accessFlags := 25, nameIndex := 131, descriptorIndex := 25, attributes := #[] }, { accessFlags := 25, nameIndex := 137, descriptorIndex := 25, attributes := #[] }, { accessFlags := 25, nameIndex := 143, descriptorIndex := 25, attributes := #[] }, { accessFlags := 25, nameIndex := 53, descriptorIndex := 25, attributes := #[] }, { accessFlags := 25, nameIndex := 24, descriptorIndex := 25, attributes := #[] }, { accessFlags := 25, nameIndex := 162, descriptorIndex := 25, attributes := #[] }, { accessFlags := 25, nameIndex := 187, descriptorIndex := 25, attributes := #[] }, { accessFlags := 26, nameIndex := 48, descriptorIndex := 25, attributes := #[] }, { accessFlags := 25, nameIndex := 277, descriptorIndex := 25, attributes := #[] }, { accessFlags := 25, nameIndex := 280, descriptorIndex := 25, attributes := #[] }, { accessFlags := 25, nameIndex := 282, descriptorIndex := 25, attributes := #[] }, { accessFlags := 25, nameIndex := 284, descriptorIndex := 25, attributes := #[] }, { accessFlags := 25, nameIndex := 286, descriptorIndex := 25, attributes := #[] }, { accessFlags := 25, nameIndex := 288, descriptorIndex := 25, attributes := #[] }, { accessFlags := 25, nameIndex := 290, descriptorIndex := 25, attributes := #[] }, { accessFlags := 25, nameIndex := 292, descriptorIndex := 25, attributes := #[] }, { accessFlags := 26, nameIndex := 108, descriptorIndex := 109, attributes := #[] }, { accessFlags := 25, nameIndex := 294, descriptorIndex := 25, attributes := #[] }])
  fields := #[{ name := "U", type := (.object "jdk/internal/misc/Unsafe"), accessFlags := 24, slot := 0, constantValue := 0 }, { name := "BIG_ENDIAN", type := .boolean, accessFlags := 26, slot := 1, constantValue := 0 }, { name := "LOG2_ARRAY_BOOLEAN_INDEX_SCALE", type := .int, accessFlags := 25, slot := 2, constantValue := 0 }, { name := "LOG2_ARRAY_BYTE_INDEX_SCALE", type := .int, accessFlags := 25, slot := 3, constantValue := 0 }, { name := "LOG2_ARRAY_CHAR_INDEX_SCALE", type := .int, accessFlags := 25, slot := 4, constantValue := 0 }, { name := "LOG2_ARRAY_SHORT_INDEX_SCALE", type := .int, accessFlags := 25, slot := 5, constantValue := 0 }, { name := "LOG2_ARRAY_INT_INDEX_SCALE", type := .int, accessFlags := 25, slot := 6, constantValue := 0 }, { name := "LOG2_ARRAY_LONG_INDEX_SCALE", type := .int, accessFlags := 25, slot := 7, constantValue := 0 }, { name := "LOG2_ARRAY_FLOAT_INDEX_SCALE", type := .int, accessFlags := 25, slot := 8, constantValue := 0 }, { name := "LOG2_ARRAY_DOUBLE_INDEX_SCALE", type := .int, accessFlags := 25, slot := 9, constantValue := 0 }, { name := "LOG2_BYTE_BIT_SIZE", type := .int, accessFlags := 26, slot := 10, constantValue := 0 }, { name := "T_BOOLEAN", type := .int, accessFlags := 25, slot := 11, constantValue := 0 }, { name := "T_CHAR", type := .int, accessFlags := 25, slot := 12, constantValue := 0 }, { name := "T_FLOAT", type := .int, accessFlags := 25, slot := 13, constantValue := 0 }, { name := "T_DOUBLE", type := .int, accessFlags := 25, slot := 14, constantValue := 0 }, { name := "T_BYTE", type := .int, accessFlags := 25, slot := 15, constantValue := 0 }, { name := "T_SHORT", type := .int, accessFlags := 25, slot := 16, constantValue := 0 }, { name := "T_INT", type := .int, accessFlags := 25, slot := 17, constantValue := 0 }, { name := "T_LONG", type := .int, accessFlags := 25, slot := 18, constantValue := 0 }, { name := "JLA", type := (.object "jdk/internal/access/JavaLangAccess"), accessFlags := 26, slot := 19, constantValue := 0 }, { name := "SOFT_MAX_ARRAY_LENGTH", type := .int, accessFlags := 25, slot := 20, constantValue := 0 }]
  methods := #[k13m0]
  instanceTypes := #[]
  staticTypes := #[(.object "jdk/internal/misc/Unsafe"), .boolean, .int, .int, .int, .int, .int, .int, .int, .int, .int, .int, .int, .int, .int, .int, .int, .int, .int, (.object "jdk/internal/access/JavaLangAccess"), .int]
  resolved := Array.replicate 378 none
  statics := none }

def pool14 : Array CpInfo := pool [(1, u "java/lang/Cloneable"), (0, .class_ 1), (0, u "java/lang/Object"), (0, .class_ 3)] 3

/-- java/lang/Cloneable -/
def k14 : Class := { plain "java/lang/Cloneable" (some 0) with
  accessFlags := 1537
  interfaces := #[]
  cf := some (fileOf pool14 2 #[] #[] 1537 4 #[] #[])
  fields := #[]
  methods := #[]
  instanceTypes := #[]
  staticTypes := #[]
  resolved := Array.replicate 8 none
  statics := none }

/-- the primitive byte -/
def k15 : Class := { plain "byte" none with kind := .primitive 'B', accessFlags := 0x411 }
/-- [B -/
def k16 : Class := { plain "[B" (some 0) with kind := .array 15 .byte, interfaces := #[14, 2], accessFlags := 1041 }

/-- the primitive char -/
def k17 : Class := { plain "char" none with kind := .primitive 'C', accessFlags := 0x411 }
/-- [C -/
def k18 : Class := { plain "[C" (some 0) with kind := .array 17 .char, interfaces := #[14, 2], accessFlags := 1041 }

/-- the primitive int -/
def k19 : Class := { plain "int" none with kind := .primitive 'I', accessFlags := 0x411 }
/-- [I -/
def k20 : Class := { plain "[I" (some 0) with kind := .array 19 .int, interfaces := #[14, 2], accessFlags := 1041 }

def heap : Heap := #[{ cls := 7, slots := #[.long 0, .int 1, .null, .int 0, .null, .int 0, .int 0], vm := .statics 7 },
  { cls := 12, slots := #[.null, .null, .null], vm := .statics 12 }]
def classes : Array Class := #[k0, k1, k2, k3, k4, k5, k6, k7, k8, k9, k10, k11, k12, k13, k14, k15, k16, k17, k18, k19, k20]
def interned : List (Array UInt16 × Addr) := []
def slotsUsed : Nat := 10
def theMethod : MethodId := ⟨1, 2⟩
def args0 : Array Value := #[.int 1, .int 2, .int 3, .int 4]
def aboutOver (below : List Frame) : State where
  vm := { classes := classes, interned := interned.toArray }
  heap := heap
  slotsUsed := slotsUsed
  threads := #[{ frames := .invoking theMethod args0 :: below }]
def below0 : List Frame := [.native { method := ⟨0, 0⟩, args := #[] }]
def about1 : State := aboutOver below0
def p0 : Program := .bare "" "" ""
def e0 : Env := launch0.env 0 0 0
theorem w_frames : about1.frames = Frame.invoking theMethod args0 :: below0 := rfl
set_option maxRecDepth 65536 in
theorem w_args : argsFit about1.vm theMethod args0 = true := by decide +kernel
set_option maxRecDepth 65536 in
theorem w_heap : heapFits about1 = true := by decide +kernel
set_option maxRecDepth 65536 in
theorem w_runnable : about1.curStatus? = some .runnable := by decide +kernel
set_option maxRecDepth 65536 in
theorem w_alone : about1.alone = true := by decide +kernel
set_option maxRecDepth 65536 in
theorem w_named : about1.methodNamed? x = some theMethod := by decide +kernel
set_option maxRecDepth 65536 in
theorem w_hears : about1.hears theMethod below0 = true := by decide +kernel
set_option maxRecDepth 65536 in
theorem w_ripe : about1.ripe theMethod args0 below0 = true := by decide +kernel
theorem w_running : about1.status = .running := rfl
set_option maxRecDepth 65536 in
theorem w_room : about1.hasRoom e0.platform room_1 = true :=
  launch0.hasRoom_least _ room_1 (by decide +kernel) (by decide +kernel) (by decide +kernel) (by decide +kernel) (by decide +kernel) (by decide +kernel)
theorem allAtoms_all (ts : List Jvm.Cond) (a : Array Jvm.Value) (st : Jvm.State) : (allAtoms ts).before a st = ts.all (fun c => c.before a st) := by
  induction ts with
  | nil => rfl
  | cons c t ih =>
    show (Jvm.Cond.and c (allAtoms t)).before a st = _
    rw [Jvm.Cond.before_and, ih, List.all_cons]
def words1 : List Jvm.Cond := Jvm.Cond.code x code maxLocals ret :: tables_1
/-- a 'code' word, met by the world's own term for the bytes: nothing is compared byte by byte -/
theorem code_word {y : MethodName} {bytes : ByteArray} {mx : Nat} {rt : Option FieldType} {a : Array Value} {s : State} {m : MethodId} {meth : Method} {c : Code} (h1 : s.methodNamed? y = some m) (h2 : s.vm.method? m = some meth) (h3 : meth.code = some c) (h4 : c.code = bytes)
    (h5 : (c.maxLocals == mx && c.exceptionTable.isEmpty && decide (c.maxStack ≤ mostOperands) && decide (meth.sig.returnType = rt) && !meth.locks && decide (parseMethodDescriptor y.desc = some meth.sig)) = true) : (Jvm.Cond.code y bytes mx rt).before a s = true := by
  simp only [Bool.and_eq_true, beq_iff_eq, Bool.not_eq_true', decide_eq_true_eq] at h5
  obtain ⟨⟨⟨⟨⟨g1, g2⟩, g3⟩, g4⟩, g5⟩, g6⟩ := h5
  simp [Cond.before, Cond.holds, Cond.value, h1, h2, h3, h4, g1, g2, g3, g4, g5, g6]
def isCode : Jvm.Cond → Bool
  | .code _ _ _ _ => true
  | _ => false
theorem all_split {L : List Jvm.Cond} {P : Jvm.Cond → Bool} (h1 : L.all (fun c => isCode c || P c) = true) (h2 : ∀ c ∈ L.filter isCode, P c = true) : L.all P = true := by
  refine List.all_eq_true.mpr fun c hc => ?_
  have h := List.all_eq_true.mp h1 c hc
  rcases Bool.eq_false_or_eq_true (isCode c) with hi | hi
  · exact h2 c (List.mem_filter.mpr ⟨hc, hi⟩)
  · simpa [hi] using h
set_option maxRecDepth 65536 in
theorem w_c0 : (Jvm.Cond.code x code maxLocals ret).before args0 about1 = true := code_word (m := ⟨1, 2⟩) (meth := k1m2) (c := k1c2) (by decide +kernel) rfl rfl rfl (by decide +kernel)
set_option maxRecDepth 65536 in
theorem w_c1 : (Jvm.Cond.code ({ cls := "com/example/dependency_wiring/dependencywiring/BeanNameReferenceEqualsPinLaw", name := "mk", desc := "(ICCC)Ljava/lang/String;" } : Jvm.MethodName) method_2_code (4 : Nat) (Option.some (Jvm.ClassFile.FieldType.object "java/lang/String"))).before args0 about1 = true := code_word (m := ⟨1, 1⟩) (meth := k1m1) (c := k1c1) (by decide +kernel) rfl rfl rfl (by decide +kernel)
set_option maxRecDepth 65536 in
theorem w_c2 : (Jvm.Cond.code ({ cls := "java/lang/String", name := "<init>", desc := "([C)V" } : Jvm.MethodName) jdk_42_method_3_code (2 : Nat) (Option.none : Option Jvm.ClassFile.FieldType)).before args0 about1 = true := code_word (m := ⟨7, 1⟩) (meth := k7m1) (c := k7c1) (by decide +kernel) rfl rfl rfl (by decide +kernel)
set_option maxRecDepth 65536 in
theorem w_c3 : (Jvm.Cond.code ({ cls := "java/lang/String", name := "<init>", desc := "([CIILjava/lang/Void;)V" } : Jvm.MethodName) jdk_42_method_149_code (6 : Nat) (Option.none : Option Jvm.ClassFile.FieldType)).before args0 about1 = true := code_word (m := ⟨7, 4⟩) (meth := k7m4) (c := k7c4) (by decide +kernel) rfl rfl rfl (by decide +kernel)
set_option maxRecDepth 65536 in
theorem w_c4 : (Jvm.Cond.code ({ cls := "java/lang/Object", name := "<init>", desc := "()V" } : Jvm.MethodName) object_method_1_code (1 : Nat) (Option.none : Option Jvm.ClassFile.FieldType)).before args0 about1 = true := code_word (m := ⟨0, 0⟩) (meth := k0m0) (c := k0c0) (by decide +kernel) rfl rfl rfl (by decide +kernel)
set_option maxRecDepth 65536 in
theorem w_c5 : (Jvm.Cond.code ({ cls := "java/lang/StringUTF16", name := "compress", desc := "([CII)[B" } : Jvm.MethodName) jdk_52_method_16_code (6 : Nat) (Option.some (Jvm.ClassFile.FieldType.array Jvm.ClassFile.FieldType.byte))).before args0 about1 = true := code_word (m := ⟨8, 2⟩) (meth := k8m2) (c := k8c2) (by decide +kernel) rfl rfl rfl (by decide +kernel)
set_option maxRecDepth 65536 in
theorem w_c6 : (Jvm.Cond.code ({ cls := "java/lang/StringUTF16", name := "compress", desc := "([CI[BII)I" } : Jvm.MethodName) jdk_52_method_21_code (7 : Nat) (Option.some Jvm.ClassFile.FieldType.int)).before args0 about1 = true := code_word (m := ⟨8, 3⟩) (meth := k8m3) (c := k8c3) (by decide +kernel) rfl rfl rfl (by decide +kernel)
set_option maxRecDepth 65536 in
theorem w_c7 : (Jvm.Cond.code ({ cls := "java/lang/StringUTF16", name := "coderFromArrayLen", desc := "([BI)B" } : Jvm.MethodName) jdk_52_method_15_code (2 : Nat) (Option.some Jvm.ClassFile.FieldType.byte)).before args0 about1 = true := code_word (m := ⟨8, 1⟩) (meth := k8m1) (c := k8c1) (by decide +kernel) rfl rfl rfl (by decide +kernel)
set_option maxRecDepth 65536 in
theorem w_c8 : (Jvm.Cond.code ({ cls := "com/example/dependency_wiring/dependencywiring/BeanNameReference", name := "<init>", desc := "(Ljava/lang/String;)V" } : Jvm.MethodName) prog_21_method_1_code (2 : Nat) (Option.none : Option Jvm.ClassFile.FieldType)).before args0 about1 = true := code_word (m := ⟨9, 0⟩) (meth := k9m0) (c := k9c0) (by decide +kernel) rfl rfl rfl (by decide +kernel)
set_option maxRecDepth 65536 in
theorem w_c9 : (Jvm.Cond.code ({ cls := "java/util/Objects", name := "requireNonNull", desc := "(Ljava/lang/Object;Ljava/lang/String;)Ljava/lang/Object;" } : Jvm.MethodName) jdk_31_method_11_code (2 : Nat) (Option.some (Jvm.ClassFile.FieldType.object "java/lang/Object"))).before args0 about1 = true := code_word (m := ⟨10, 1⟩) (meth := k10m1) (c := k10c1) (by decide +kernel) rfl rfl rfl (by decide +kernel)
set_option maxRecDepth 65536 in
theorem w_c10 : (Jvm.Cond.code ({ cls := "java/lang/String", name := "isEmpty", desc := "()Z" } : Jvm.MethodName) jdk_42_method_55_code (1 : Nat) (Option.some Jvm.ClassFile.FieldType.boolean)).before args0 about1 = true := code_word (m := ⟨7, 2⟩) (meth := k7m2) (c := k7c2) (by decide +kernel) rfl rfl rfl (by decide +kernel)
set_option maxRecDepth 65536 in
theorem w_c11 : (Jvm.Cond.code ({ cls := "com/example/dependency_wiring/dependencywiring/BeanNameReference", name := "equals", desc := "(Ljava/lang/Object;)Z" } : Jvm.MethodName) prog_21_method_3_code (3 : Nat) (Option.some Jvm.ClassFile.FieldType.boolean)).before args0 about1 = true := code_word (m := ⟨9, 1⟩) (meth := k9m1) (c := k9c1) (by decide +kernel) rfl rfl rfl (by decide +kernel)
set_option maxRecDepth 65536 in
theorem w_c12 : (Jvm.Cond.code ({ cls := "java/lang/String", name := "equals", desc := "(Ljava/lang/Object;)Z" } : Jvm.MethodName) jdk_42_method_66_code (3 : Nat) (Option.some Jvm.ClassFile.FieldType.boolean)).before args0 about1 = true := code_word (m := ⟨7, 3⟩) (meth := k7m3) (c := k7c3) (by decide +kernel) rfl rfl rfl (by decide +kernel)
set_option maxRecDepth 65536 in
theorem w_c13 : (Jvm.Cond.code ({ cls := "java/lang/StringLatin1", name := "equals", desc := "([B[B)Z" } : Jvm.MethodName) jdk_43_method_13_code (3 : Nat) (Option.some Jvm.ClassFile.FieldType.boolean)).before args0 about1 = true := code_word (m := ⟨11, 1⟩) (meth := k11m1) (c := k11c1) (by decide +kernel) rfl rfl rfl (by decide +kernel)
def codes1 : List Jvm.Cond := [Jvm.Cond.code x code maxLocals ret, Jvm.Cond.code ({ cls := "com/example/dependency_wiring/dependencywiring/BeanNameReferenceEqualsPinLaw", name := "mk", desc := "(ICCC)Ljava/lang/String;" } : Jvm.MethodName) method_2_code (4 : Nat) (Option.some (Jvm.ClassFile.FieldType.object "java/lang/String")), Jvm.Cond.code ({ cls := "java/lang/String", name := "<init>", desc := "([C)V" } : Jvm.MethodName) jdk_42_method_3_code (2 : Nat) (Option.none : Option Jvm.ClassFile.FieldType), Jvm.Cond.code ({ cls := "java/lang/String", name := "<init>", desc := "([CIILjava/lang/Void;)V" } : Jvm.MethodName) jdk_42_method_149_code (6 : Nat) (Option.none : Option Jvm.ClassFile.FieldType), Jvm.Cond.code ({ cls := "java/lang/Object", name := "<init>", desc := "()V" } : Jvm.MethodName) object_method_1_code (1 : Nat) (Option.none : Option Jvm.ClassFile.FieldType), Jvm.Cond.code ({ cls := "java/lang/StringUTF16", name := "compress", desc := "([CII)[B" } : Jvm.MethodName) jdk_52_method_16_code (6 : Nat) (Option.some (Jvm.ClassFile.FieldType.array Jvm.ClassFile.FieldType.byte)), Jvm.Cond.code ({ cls := "java/lang/StringUTF16", name := "compress", desc := "([CI[BII)I" } : Jvm.MethodName) jdk_52_method_21_code (7 : Nat) (Option.some Jvm.ClassFile.FieldType.int), Jvm.Cond.code ({ cls := "java/lang/StringUTF16", name := "coderFromArrayLen", desc := "([BI)B" } : Jvm.MethodName) jdk_52_method_15_code (2 : Nat) (Option.some Jvm.ClassFile.FieldType.byte), Jvm.Cond.code ({ cls := "com/example/dependency_wiring/dependencywiring/BeanNameReference", name := "<init>", desc := "(Ljava/lang/String;)V" } : Jvm.MethodName) prog_21_method_1_code (2 : Nat) (Option.none : Option Jvm.ClassFile.FieldType), Jvm.Cond.code ({ cls := "java/util/Objects", name := "requireNonNull", desc := "(Ljava/lang/Object;Ljava/lang/String;)Ljava/lang/Object;" } : Jvm.MethodName) jdk_31_method_11_code (2 : Nat) (Option.some (Jvm.ClassFile.FieldType.object "java/lang/Object")), Jvm.Cond.code ({ cls := "java/lang/String", name := "isEmpty", desc := "()Z" } : Jvm.MethodName) jdk_42_method_55_code (1 : Nat) (Option.some Jvm.ClassFile.FieldType.boolean), Jvm.Cond.code ({ cls := "com/example/dependency_wiring/dependencywiring/BeanNameReference", name := "equals", desc := "(Ljava/lang/Object;)Z" } : Jvm.MethodName) prog_21_method_3_code (3 : Nat) (Option.some Jvm.ClassFile.FieldType.boolean), Jvm.Cond.code ({ cls := "java/lang/String", name := "equals", desc := "(Ljava/lang/Object;)Z" } : Jvm.MethodName) jdk_42_method_66_code (3 : Nat) (Option.some Jvm.ClassFile.FieldType.boolean), Jvm.Cond.code ({ cls := "java/lang/StringLatin1", name := "equals", desc := "([B[B)Z" } : Jvm.MethodName) jdk_43_method_13_code (3 : Nat) (Option.some Jvm.ClassFile.FieldType.boolean)]
set_option maxRecDepth 65536 in
theorem codes_eq : words1.filter isCode = codes1 := rfl
theorem w_codes : ∀ c ∈ words1.filter isCode, c.before args0 about1 = true := by
  rw [codes_eq]
  intro c hc
  simp only [codes1, List.mem_cons, List.not_mem_nil, or_false] at hc
  rcases hc with rfl | rfl | rfl | rfl | rfl | rfl | rfl | rfl | rfl | rfl | rfl | rfl | rfl | rfl
  · exact w_c0
  · exact w_c1
  · exact w_c2
  · exact w_c3
  · exact w_c4
  · exact w_c5
  · exact w_c6
  · exact w_c7
  · exact w_c8
  · exact w_c9
  · exact w_c10
  · exact w_c11
  · exact w_c12
  · exact w_c13
set_option maxRecDepth 65536 in
theorem w_t1 : (words1.take 24).all (fun c => isCode c || c.before args0 about1) = true := by decide +kernel
set_option maxRecDepth 65536 in
theorem w_t2 : ((words1.drop 24).take 24).all (fun c => isCode c || c.before args0 about1) = true := by decide +kernel
set_option maxRecDepth 65536 in
theorem w_t3 : (((words1.drop 24).drop 24).take 24).all (fun c => isCode c || c.before args0 about1) = true := by decide +kernel
set_option maxRecDepth 65536 in
theorem w_t4 : (((words1.drop 24).drop 24).drop 24).all (fun c => isCode c || c.before args0 about1) = true := by decide +kernel
theorem w_tables : (allAtoms (Jvm.Cond.code x code maxLocals ret :: tables_1)).before args0 about1 = true := by
  rw [allAtoms_all]
  show words1.all (fun c => c.before args0 about1) = true
  refine all_split ?_ w_codes
  rw [← List.take_append_drop 24 words1, List.all_append, w_t1, ← List.take_append_drop 24 (words1.drop 24), List.all_append, w_t2, ← List.take_append_drop 24 ((words1.drop 24).drop 24), List.all_append, w_t3, w_t4]
  rfl
set_option maxRecDepth 65536 in
theorem w_rest : rest_1_c.before args0 about1 = true := by decide +kernel
set_option maxRecDepth 65536 in
theorem w_case : (Jvm.Cond.and given_1 narrow_1).before args0 about1 = true := by decide +kernel
theorem w_applies : (headSpec (Jvm.Cond.code x code maxLocals ret :: tables_1) room_1).applies x e0.platform about1 = true :=
  (Spec.applies_iff w_frames).mpr ⟨w_running, w_runnable, w_alone, w_named, w_hears, w_ripe, w_room, w_tables⟩
theorem atStart : AtStart classFile x code maxLocals ret World_1 tables_1 room_1 Calls_1 rest_1 Pre_1 launch0 p0 e0 about1 theMethod args0 below0 :=
  ⟨lists_1, trivial, launch0.admits_env _ _ _, launch0.least_env, fairChoices_fair.cas, fairChoices_fair.clock, w_frames, w_args, w_heap, w_applies, trivial, w_rest, w_case⟩
end start1
theorem witness_1 : WitnessClaimed_1 := ⟨start1.p0, start1.e0, start1.about1, start1.theMethod, start1.args0, start1.below0, start1.atStart⟩
end Jvm.Pilot.@@N@@
