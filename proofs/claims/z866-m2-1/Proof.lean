import JvmDerived
import JvmDerived.Pilot.@@N@@Statement
import JvmDerived.Pilot.@@N@@Code
set_option linter.unusedVariables false
set_option linter.unusedSimpArgs false
namespace Jvm.Pilot.@@N@@
open Jvm Jvm.ClassFile Sem Op Lib Jvm.Free Jvm.Stand Jvm.LawKit Jvm.RoadKit Bundle Jvm.Pilot.@@N@@.Jvm.D
/-! 0. the walk's goal, and how a step leads to it -/
def OGoal (p : Program) (e : Env) (below : List Frame) (Φ : Outcome → State → Prop) (T : State) (g : JFrame) : Prop :=
  ∃ s₂ o, Steps p.tables e below (T.setTop g) s₂ ∧ s₂.status = .running ∧ Ended s₂ below o ∧ Φ o s₂
theorem own_by {p : Program} {e : Env} {below : List Frame} {Φ : Outcome → State → Prop} {T T' : State} {g g' : JFrame}
    (st : ∀ t, Steps p.tables e below (T'.setTop g') t → Steps p.tables e below (T.setTop g) t) (G : OGoal p e below Φ T' g') : OGoal p e below Φ T g := by
  obtain ⟨s₂, o, h1, h2⟩ := G
  exact ⟨s₂, o, st _ h1, h2⟩
theorem own_enter {p : Program} {e : Env} {below : List Frame} {Φ : Outcome → State → Prop} {T : State} {g g' : JFrame} (q : g = g') (G : OGoal p e below Φ T g') :
    ∃ s₂ o, Steps p.tables e below (T.setTop g) s₂ ∧ s₂.status = .running ∧ Ended s₂ below o ∧ Φ o s₂ := by subst q; exact G
theorem own_kext {h h' : Heap} (E : Ext h h') : Keep h h' [] := (Keep.refl h []).ext E
theorem own_narR {ty : FieldType} {v : Value} (hty : ty.isReference = true) (h : v.isRef = true) : narrow ty v = v := by
  rcases ref_cases h with rfl | ⟨a, rfl⟩ <;> cases ty <;> first | rfl | (cases hty)
theorem own_fitR {ty : FieldType} {v : Value} (hty : ty.isReference = true) (h : v.isRef = true) : fits ty v = true := by
  rcases ref_cases h with rfl | ⟨a, rfl⟩ <;> cases ty <;> first | rfl | (cases hty)
theorem own_narC (x : Int32) : nar .char (x.toUInt32.toUInt16.toUInt32.toInt32) = x.toUInt32.toUInt16.toUInt32.toInt32 := by
  show (x.toUInt32.toUInt16.toUInt32.toInt32).toUInt32.toUInt16.toUInt32.toInt32 = _
  simp only [UInt32.toUInt32_toInt32, UInt16.toUInt16_toUInt32]
theorem own_narB (x : Int32) : nar .byte (x.toInt8.toInt32) = x.toInt8.toInt32 := by
  show (x.toInt8.toInt32).toInt8.toInt32 = _
  simp
theorem own_fldI {Z : State} {args : Array Value} {t : Term} {a : Addr} {C n d : String} {k : Int32} (ev : t.eval args Z none [] Z = some (.ref a)) (h : (Jvm.Cond.eq (.field t C n d) (.int k)).value args Z none Z [] = some true) : Fld Z Z.heap a C n d (.int k) :=
  Fld.start ((fld_at ev).symm.trans (eqv_i (Term.int_eval k) h))
theorem own_fldJ {Z : State} {args : Array Value} {t : Term} {a : Addr} {C n d : String} {k : Int64} (ev : t.eval args Z none [] Z = some (.ref a)) (h : (Jvm.Cond.eq (.field t C n d) (.long k)).value args Z none Z [] = some true) : Fld Z Z.heap a C n d (.long k) :=
  Fld.start ((fld_at ev).symm.trans (eqv_l (F := .long k) rfl h))
theorem own_len {Z : State} {args : Array Value} {t : Term} {a : Addr} {c : Cell} {ty : FieldType} {n : Int32} (ev : t.eval args Z none [] Z = some (.ref a)) (A : Arr Z Z.heap a c ty) (h : (Jvm.Cond.eq (.length t) (.int n)).value args Z none Z [] = some true) : c.slots.size < 2 ^ 31 ∧ c.slots.size.toInt32 = n := by
  have e1 := eqv_i (Term.int_eval n) h
  have ha := A.fin (Vm.Alike.refl _)
  simp only [Term.eval, ev, Option.bind_eq_bind, Option.bind_some, ha] at e1
  split at e1
  · rename_i q; exact ⟨q, by simpa using e1⟩
  · cases e1
theorem own_elem {Z : State} {args : Array Value} {t u : Term} {a b : Addr} {c : Cell} {ty : FieldType} {j : Int32} {k : Nat} (ev : t.eval args Z none [] Z = some (.ref a)) (A : Arr Z Z.heap a c ty) (hj : ¬ j < 0) (eu : u.eval args Z none [] Z = some (.ref b)) (hk : j.toNatClampNeg = k) (h : (Jvm.Cond.eq (.elem t (.int j)) u).value args Z none Z [] = some true) : c.slots[k]? = some (.ref b) := by
  subst hk
  have ha := A.fin (Vm.Alike.refl _)
  have e1 := elem_f (a := .int j) ev (Term.int_eval j) ha hj
  obtain ⟨x, y, g1, g2, k1, k2⟩ := cmp_v (Or.inl h)
  cases eu.symm.trans g2
  rw [e1] at g1
  have hx : x.isRef = true := by cases x <;> simp [Kin, Value.isRef] at k2 ⊢
  have := gotT (eq_R (e1.trans g1) eu hx rfl) h
  rw [g1, this]
def Glob (Z : State) (w0 : Addr) (w1 : Addr) (w2 : Addr) (w3 : Addr) (w4 : Addr) (w5 : Addr) (wV : Addr) (kV : ClassId) : Prop := Sta Z Z.heap "com/example/redoubt/redoubt/core/Direction" "N" "Lcom/example/redoubt/redoubt/core/Direction;" (.ref w0) ∧ Exa Z Z.heap w0 "com/example/redoubt/redoubt/core/Direction" ∧ Fld Z Z.heap w0 "java/lang/Enum" "ordinal" "I" (.int (0 : Int32)) ∧ Fld Z Z.heap w0 "com/example/redoubt/redoubt/core/Direction" "dq" "I" (.int (0 : Int32)) ∧ Fld Z Z.heap w0 "com/example/redoubt/redoubt/core/Direction" "dr" "I" (.int (-1 : Int32)) ∧ Sta Z Z.heap "com/example/redoubt/redoubt/core/Direction" "NE" "Lcom/example/redoubt/redoubt/core/Direction;" (.ref w1) ∧ Exa Z Z.heap w1 "com/example/redoubt/redoubt/core/Direction" ∧ Fld Z Z.heap w1 "java/lang/Enum" "ordinal" "I" (.int (1 : Int32)) ∧ Fld Z Z.heap w1 "com/example/redoubt/redoubt/core/Direction" "dq" "I" (.int (1 : Int32)) ∧ Fld Z Z.heap w1 "com/example/redoubt/redoubt/core/Direction" "dr" "I" (.int (-1 : Int32)) ∧ Sta Z Z.heap "com/example/redoubt/redoubt/core/Direction" "SE" "Lcom/example/redoubt/redoubt/core/Direction;" (.ref w2) ∧ Exa Z Z.heap w2 "com/example/redoubt/redoubt/core/Direction" ∧ Fld Z Z.heap w2 "java/lang/Enum" "ordinal" "I" (.int (2 : Int32)) ∧ Fld Z Z.heap w2 "com/example/redoubt/redoubt/core/Direction" "dq" "I" (.int (1 : Int32)) ∧ Fld Z Z.heap w2 "com/example/redoubt/redoubt/core/Direction" "dr" "I" (.int (0 : Int32)) ∧ Sta Z Z.heap "com/example/redoubt/redoubt/core/Direction" "S" "Lcom/example/redoubt/redoubt/core/Direction;" (.ref w3) ∧ Exa Z Z.heap w3 "com/example/redoubt/redoubt/core/Direction" ∧ Fld Z Z.heap w3 "java/lang/Enum" "ordinal" "I" (.int (3 : Int32)) ∧ Fld Z Z.heap w3 "com/example/redoubt/redoubt/core/Direction" "dq" "I" (.int (0 : Int32)) ∧ Fld Z Z.heap w3 "com/example/redoubt/redoubt/core/Direction" "dr" "I" (.int (1 : Int32)) ∧ Sta Z Z.heap "com/example/redoubt/redoubt/core/Direction" "SW" "Lcom/example/redoubt/redoubt/core/Direction;" (.ref w4) ∧ Exa Z Z.heap w4 "com/example/redoubt/redoubt/core/Direction" ∧ Fld Z Z.heap w4 "java/lang/Enum" "ordinal" "I" (.int (4 : Int32)) ∧ Fld Z Z.heap w4 "com/example/redoubt/redoubt/core/Direction" "dq" "I" (.int (-1 : Int32)) ∧ Fld Z Z.heap w4 "com/example/redoubt/redoubt/core/Direction" "dr" "I" (.int (1 : Int32)) ∧ Sta Z Z.heap "com/example/redoubt/redoubt/core/Direction" "NW" "Lcom/example/redoubt/redoubt/core/Direction;" (.ref w5) ∧ Exa Z Z.heap w5 "com/example/redoubt/redoubt/core/Direction" ∧ Fld Z Z.heap w5 "java/lang/Enum" "ordinal" "I" (.int (5 : Int32)) ∧ Fld Z Z.heap w5 "com/example/redoubt/redoubt/core/Direction" "dq" "I" (.int (-1 : Int32)) ∧ Fld Z Z.heap w5 "com/example/redoubt/redoubt/core/Direction" "dr" "I" (.int (0 : Int32)) ∧ Sta Z Z.heap "com/example/redoubt/redoubt/core/Direction" "$VALUES" "[Lcom/example/redoubt/redoubt/core/Direction;" (.ref wV) ∧ Exa Z Z.heap wV "[Lcom/example/redoubt/redoubt/core/Direction;" ∧ Arv Z Z.heap wV kV (.object "com/example/redoubt/redoubt/core/Direction") (6 : Int32) [(.ref w0), (.ref w1), (.ref w2), (.ref w3), (.ref w4), (.ref w5)] .null
def dqF (o : Int32) : Int32 := if o = (0 : Int32) then (0 : Int32) else if o = (1 : Int32) then (1 : Int32) else if o = (2 : Int32) then (1 : Int32) else if o = (3 : Int32) then (0 : Int32) else if o = (4 : Int32) then (-1 : Int32) else if o = (5 : Int32) then (-1 : Int32) else (0 : Int32)
def drF (o : Int32) : Int32 := if o = (0 : Int32) then (-1 : Int32) else if o = (1 : Int32) then (-1 : Int32) else if o = (2 : Int32) then (0 : Int32) else if o = (3 : Int32) then (1 : Int32) else if o = (4 : Int32) then (1 : Int32) else if o = (5 : Int32) then (0 : Int32) else (0 : Int32)
def fmF (x y : Int32) : Int32 := if (x ^^^ y) < (0 : Int32) then (if (x % y) = (0 : Int32) then (x % y) else ((x % y) + y)) else (x % y)
theorem own_fm (x : Int32) : (fmF x (6 : Int32)).toInt = x.toInt % 6 := by
  have x1 := Int32.le_toInt x
  have x2 := Int32.toInt_lt x
  have e6 : (6 : Int32).toInt = 6 := rfl
  have e0 : (0 : Int32).toInt = 0 := rfl
  obtain ⟨r1, r2⟩ := c_irem x (6 : Int32) 6 rfl
  obtain ⟨s1, s2, s3, s4⟩ := c_xorS x (6 : Int32)
  have c1 := c_iadd (x % (6 : Int32)) (6 : Int32)
  rw [e6] at s1 s2 s3 s4 c1
  have b1 := Int32.le_toInt (x % (6 : Int32) + (6 : Int32))
  have b2 := Int32.toInt_lt (x % (6 : Int32) + (6 : Int32))
  unfold fmF
  by_cases p : 0 ≤ x.toInt
  · have := s4 p (by omega)
    rw [if_neg (by rw [Int32.lt_iff_toInt_lt, e0]; omega)]
    exact r1 p
  · have := s2 (by omega) (by omega)
    have r := r2 (by omega)
    rw [if_pos (by rw [Int32.lt_iff_toInt_lt, e0]; omega)]
    by_cases q : x % (6 : Int32) = (0 : Int32)
    · rw [if_pos q]
      rw [q, e0] at r
      rw [q, e0]; omega
    · rw [if_neg q]
      have q' : (x % (6 : Int32)).toInt ≠ 0 := fun z => q (Int32.toInt_inj.mp (z.trans e0.symm))
      omega
theorem own_fmb (x : Int32) : 0 ≤ (fmF x (6 : Int32)).toInt ∧ (fmF x (6 : Int32)).toInt < 6 := by rw [own_fm]; omega
theorem own_six (s : Int32) (h : 0 ≤ s.toInt ∧ s.toInt < 6) : s = (0 : Int32) ∨ s = (1 : Int32) ∨ s = (2 : Int32) ∨ s = (3 : Int32) ∨ s = (4 : Int32) ∨ s = (5 : Int32) := by
  simp only [← Int32.toInt_inj]
  have e0 : (0 : Int32).toInt = 0 := rfl
  have e1 : (1 : Int32).toInt = 1 := rfl
  have e2 : (2 : Int32).toInt = 2 := rfl
  have e3 : (3 : Int32).toInt = 3 := rfl
  have e4 : (4 : Int32).toInt = 4 := rfl
  have e5 : (5 : Int32).toInt = 5 := rfl
  omega
theorem own_inb6 (s : Int32) (h : 0 ≤ s.toInt ∧ s.toInt < 6) : ¬ s < 0 ∧ s < (6 : Int32) := by
  rw [Int32.lt_iff_toInt_lt, Int32.lt_iff_toInt_lt, show (0 : Int32).toInt = 0 from rfl, show (6 : Int32).toInt = 6 from rfl]; omega
theorem own_dirs {Z : State} (w0 : Addr) (w1 : Addr) (w2 : Addr) (w3 : Addr) (w4 : Addr) (w5 : Addr) (wV : Addr) (kV : ClassId) (GS : Glob Z w0 w1 w2 w3 w4 w5 wV kV) (j : Int32) (h : 0 ≤ j.toInt ∧ j.toInt < 6) : ∃ t, List.getD [(Value.ref w0), (Value.ref w1), (Value.ref w2), (Value.ref w3), (Value.ref w4), (Value.ref w5)] (j).toNatClampNeg Value.null = (Value.ref t) ∧ Exa Z Z.heap t "com/example/redoubt/redoubt/core/Direction" ∧ Fld Z Z.heap t "com/example/redoubt/redoubt/core/Direction" "dq" "I" (.int (dqF j)) ∧ Fld Z Z.heap t "com/example/redoubt/redoubt/core/Direction" "dr" "I" (.int (drF j)) := by
  rcases own_six j h with rfl | rfl | rfl | rfl | rfl | rfl
  · exact ⟨w0, rfl, GS.2.1, GS.2.2.2.1, GS.2.2.2.2.1⟩
  · exact ⟨w1, rfl, GS.2.2.2.2.2.2.1, GS.2.2.2.2.2.2.2.2.1, GS.2.2.2.2.2.2.2.2.2.1⟩
  · exact ⟨w2, rfl, GS.2.2.2.2.2.2.2.2.2.2.2.1, GS.2.2.2.2.2.2.2.2.2.2.2.2.2.1, GS.2.2.2.2.2.2.2.2.2.2.2.2.2.2.1⟩
  · exact ⟨w3, rfl, GS.2.2.2.2.2.2.2.2.2.2.2.2.2.2.2.2.1, GS.2.2.2.2.2.2.2.2.2.2.2.2.2.2.2.2.2.2.1, GS.2.2.2.2.2.2.2.2.2.2.2.2.2.2.2.2.2.2.2.1⟩
  · exact ⟨w4, rfl, GS.2.2.2.2.2.2.2.2.2.2.2.2.2.2.2.2.2.2.2.2.2.1, GS.2.2.2.2.2.2.2.2.2.2.2.2.2.2.2.2.2.2.2.2.2.2.2.1, GS.2.2.2.2.2.2.2.2.2.2.2.2.2.2.2.2.2.2.2.2.2.2.2.2.1⟩
  · exact ⟨w5, rfl, GS.2.2.2.2.2.2.2.2.2.2.2.2.2.2.2.2.2.2.2.2.2.2.2.2.2.2.1, GS.2.2.2.2.2.2.2.2.2.2.2.2.2.2.2.2.2.2.2.2.2.2.2.2.2.2.2.2.1, GS.2.2.2.2.2.2.2.2.2.2.2.2.2.2.2.2.2.2.2.2.2.2.2.2.2.2.2.2.2.1⟩
theorem own_fin (o m j : Int32) (ho : o = (0 : Int32) ∨ o = (1 : Int32) ∨ o = (2 : Int32) ∨ o = (3 : Int32) ∨ o = (4 : Int32) ∨ o = (5 : Int32)) (hm : m = (0 : Int32) ∨ m = (1 : Int32) ∨ m = (2 : Int32) ∨ m = (3 : Int32) ∨ m = (4 : Int32) ∨ m = (5 : Int32)) (hj : j.toInt = (o.toInt + m.toInt) % 6) : (m = (0 : Int32) → dqF j = (dqF o) ∧ drF j = (drF o)) ∧ (m = (1 : Int32) → dqF j = (-(drF o)) ∧ drF j = ((dqF o) + (drF o))) ∧ (m = (2 : Int32) → dqF j = ((-(dqF o)) - (drF o)) ∧ drF j = (dqF o)) ∧ (m = (3 : Int32) → dqF j = (-(dqF o)) ∧ drF j = (-(drF o))) ∧ (m = (4 : Int32) → dqF j = (drF o) ∧ drF j = ((-(dqF o)) - (drF o))) ∧ (m = (5 : Int32) → dqF j = ((dqF o) + (drF o)) ∧ drF j = (-(dqF o))) := by
  obtain rfl : j = Int32.ofInt ((o.toInt + m.toInt) % 6) := by rw [← hj]; exact (Int32.ofInt_toInt j).symm
  rcases ho with rfl | rfl | rfl | rfl | rfl | rfl <;> rcases hm with rfl | rfl | rfl | rfl | rfl | rfl <;> decide
theorem own_law (o s m : Int32) (ho : 0 ≤ o.toInt ∧ o.toInt < 6) (hs : s.toInt ≤ 2147483642) (hm : 0 ≤ m.toInt ∧ m.toInt < 6 ∧ (m.toInt - s.toInt) % 6 = 0) : (m = (0 : Int32) → dqF (fmF (o + s) (6 : Int32)) = (dqF o) ∧ drF (fmF (o + s) (6 : Int32)) = (drF o)) ∧ (m = (1 : Int32) → dqF (fmF (o + s) (6 : Int32)) = (-(drF o)) ∧ drF (fmF (o + s) (6 : Int32)) = ((dqF o) + (drF o))) ∧ (m = (2 : Int32) → dqF (fmF (o + s) (6 : Int32)) = ((-(dqF o)) - (drF o)) ∧ drF (fmF (o + s) (6 : Int32)) = (dqF o)) ∧ (m = (3 : Int32) → dqF (fmF (o + s) (6 : Int32)) = (-(dqF o)) ∧ drF (fmF (o + s) (6 : Int32)) = (-(drF o))) ∧ (m = (4 : Int32) → dqF (fmF (o + s) (6 : Int32)) = (drF o) ∧ drF (fmF (o + s) (6 : Int32)) = ((-(dqF o)) - (drF o))) ∧ (m = (5 : Int32) → dqF (fmF (o + s) (6 : Int32)) = ((dqF o) + (drF o)) ∧ drF (fmF (o + s) (6 : Int32)) = (-(dqF o))) := by
  have s1 := Int32.le_toInt s
  have c1 := c_iadd o s
  have b1 := Int32.le_toInt (o + s)
  have b2 := Int32.toInt_lt (o + s)
  have e : (o + s).toInt = o.toInt + s.toInt := by omega
  exact own_fin o m _ (own_six o ho) (own_six m ⟨hm.1, hm.2.1⟩) (by rw [own_fm, e]; omega)
theorem own_d6_0 : decode jdk_37_method_2_code 0 = .ok (.aload_n 0, 1) := by decide +kernel
theorem own_d6_1 : decode jdk_37_method_2_code 1 = .ok (.getfield 7, 3) := by decide +kernel
theorem own_d6_4 : decode jdk_37_method_2_code 4 = .ok (.ireturn, 1) := by decide +kernel
theorem own_pn_java_lang_Enum : plainName "java/lang/Enum" = true := by first | (simp [plainName, overriddenIn]; done) | decide +kernel
theorem own_ef_rmOrd (m : MethodId) (x0 : Addr) : entryFrame m #[(.ref x0)] 1 = mkF m 0 #[.val (.ref x0)] [] := by first | (simp [entryFrame, mkF, argsToLocals, Value.category]; done) | rfl
def Q_rmOrd (Z : State) (w0 : Addr) (w1 : Addr) (w2 : Addr) (w3 : Addr) (w4 : Addr) (w5 : Addr) (wV : Addr) (kV : ClassId) (a : Addr) (w : Int32) (h0 : Heap) (n0 : Nat) (vv_ : Option Value) (hh_ : Heap) (LL_ : List Loc) : Prop := vv_ = some (.int w) ∧ Fr n0 LL_ ∧ hh_ = h0
set_option maxRecDepth 65536 in
set_option maxHeartbeats 40000000 in
theorem rmOrd (l : Launch) (Z : State) (a0 : Array Value) (hw : ∀ d ∈ tables_1, d.before a0 Z = true) (ws : List Jvm.Cond) (w0 : Addr) (w1 : Addr) (w2 : Addr) (w3 : Addr) (w4 : Addr) (w5 : Addr) (wV : Addr) (kV : ClassId) (GS : Glob Z w0 w1 w2 w3 w4 w5 wV kV) (a : Addr) (w : Int32) (h0 : Heap) (n0 : Nat) (Z0 : n0 ≤ h0.size) (O0 : Old Z n0 h0) (Fw : Fld Z h0 a "java/lang/Enum" "ordinal" "I" (.int w)) :
    MetFree l (⟨"java/lang/Enum", "ordinal", "()I"⟩ : MethodName) (head1 (Jvm.Cond.code (⟨"java/lang/Enum", "ordinal", "()I"⟩ : MethodName) jdk_37_method_2_code 1 (some .int) :: ws) ({ frames := 0, cells := 0, slots := 0, locals := 0 } : Room)) (fun aa_ UU_ => aa_ = #[(.ref a)] ∧ Z.Warmed39 UU_.vm ∧ UU_.heap = h0) (fun _ _ _ _ _ => True) (fun _ UU_ oo_ UV_ => ∃ vv_ LL_, oo_ = .returned vv_ ∧ Q_rmOrd Z w0 w1 w2 w3 w4 w5 wV kV a w h0 n0 vv_ UV_.heap LL_ ∧ FrameEnd UU_ oo_ UV_ LL_ ({ frames := 0, cells := 0, slots := 0, locals := 0 } : Room).cells ({ frames := 0, cells := 0, slots := 0, locals := 0 } : Room).slots) := by
  refine MetFree.of_bodySF (plainFor_of_name own_pn_java_lang_Enum) hisR ?_
  intro p e s m args below meth c s₁ Bd hml0 hP hK
  obtain ⟨rfl, hZ, hh⟩ := hP
  have hx := Bd.exec
  have hby := Bd.bytes
  have hml : c.maxLocals = 1 := hml0
  have hown : s.vm.findClass "java/lang/Enum" = some m.cls := findClass_of_methodNamed Bd.named
  have hnm := (name_of_methodNamed Bd.named Bd.method).1
  have X0 : Stand p l e ({ frames := 0, cells := 0, slots := 0, locals := 0 } : Room) s m #[(.ref a)] below meth c s₁ [] 0 0 := Stand.of_body Bd
  have e0 : s₁.heap = h0 := by rw [← hh, Bd.state]; rfl
  have N0 := Fr.nil n0
  have hn0 : Z.heap.size = n0 := O0.1
  have KT0 : Keep h0 h0 [] := Keep.refl _ _
  refine own_enter (Φ := fun oo_ UV_ => ∃ vv_ LL_, oo_ = .returned vv_ ∧ Q_rmOrd Z w0 w1 w2 w3 w4 w5 wV kV a w h0 n0 vv_ UV_.heap LL_ ∧ FrameEnd s oo_ UV_ LL_ ({ frames := 0, cells := 0, slots := 0, locals := 0 } : Room).cells ({ frames := 0, cells := 0, slots := 0, locals := 0 } : Room).slots) (own_ef_rmOrd m a) ?_
  refine own_by (T' := s₁) (g' := (mkF m 1 #[.val (.ref a)] [(.ref a)])) (fun _ kt_ => XS.aloadN X0.here hx rfl (hb hby own_d6_0) rfl rfl kt_) ?_
  obtain ⟨T1, X1, e1, st1⟩ := getF X0 hx hZ hown (host := "") (Or.inl (hw _ (List.mem_of_getElem? (i := 55) rfl))) Via.refl e0 Fw (g := (mkF m 1 #[.val (.ref a)] [(.ref a)])) rfl rfl (hb hby own_d6_1)
  refine own_by (T' := T1) (g' := (mkF m 4 #[.val (.ref a)] [(.int w)])) st1 ?_
  obtain ⟨fs2, hr2, hrun2, hended2, hW2, hsame2⟩ := X1.leave (v := some (.int w)) (fun h => by rw [Bd.returns] at h; cases h)
  refine ⟨_, _, retOut X1 hx (t := .int) Bd.returns rfl (Or.inl ⟨rfl, Or.inl rfl, _, rfl⟩) (hb hby own_d6_4) hr2, hrun2, hended2, _, _, rfl, ?_, ⟨_, rfl⟩, hW2, hsame2.mono (by decide) (by decide)⟩
  show Q_rmOrd Z w0 w1 w2 w3 w4 w5 wV kV a w h0 n0 _ T1.heap _
  exact ⟨rfl, N0, e1⟩
theorem own_d2_0 : decode prog_6_method_4_code 0 = .ok (.aload_n 0, 1) := by decide +kernel
theorem own_d2_1 : decode prog_6_method_4_code 1 = .ok (.getfield 41, 3) := by decide +kernel
theorem own_d2_4 : decode prog_6_method_4_code 4 = .ok (.ireturn, 1) := by decide +kernel
theorem own_pn_com_example_redoubt_redoubt_core_Direction : plainName "com/example/redoubt/redoubt/core/Direction" = true := by first | (simp [plainName, overriddenIn]; done) | decide +kernel
theorem own_ef_rmDq (m : MethodId) (x0 : Addr) : entryFrame m #[(.ref x0)] 1 = mkF m 0 #[.val (.ref x0)] [] := by first | (simp [entryFrame, mkF, argsToLocals, Value.category]; done) | rfl
def Q_rmDq (Z : State) (w0 : Addr) (w1 : Addr) (w2 : Addr) (w3 : Addr) (w4 : Addr) (w5 : Addr) (wV : Addr) (kV : ClassId) (a : Addr) (w : Int32) (h0 : Heap) (n0 : Nat) (vv_ : Option Value) (hh_ : Heap) (LL_ : List Loc) : Prop := vv_ = some (.int w) ∧ Fr n0 LL_ ∧ hh_ = h0
set_option maxRecDepth 65536 in
set_option maxHeartbeats 40000000 in
theorem rmDq (l : Launch) (Z : State) (a0 : Array Value) (hw : ∀ d ∈ tables_1, d.before a0 Z = true) (ws : List Jvm.Cond) (w0 : Addr) (w1 : Addr) (w2 : Addr) (w3 : Addr) (w4 : Addr) (w5 : Addr) (wV : Addr) (kV : ClassId) (GS : Glob Z w0 w1 w2 w3 w4 w5 wV kV) (a : Addr) (w : Int32) (h0 : Heap) (n0 : Nat) (Z0 : n0 ≤ h0.size) (O0 : Old Z n0 h0) (Fw : Fld Z h0 a "com/example/redoubt/redoubt/core/Direction" "dq" "I" (.int w)) :
    MetFree l (⟨"com/example/redoubt/redoubt/core/Direction", "dq", "()I"⟩ : MethodName) (head1 (Jvm.Cond.code (⟨"com/example/redoubt/redoubt/core/Direction", "dq", "()I"⟩ : MethodName) prog_6_method_4_code 1 (some .int) :: ws) ({ frames := 0, cells := 0, slots := 0, locals := 0 } : Room)) (fun aa_ UU_ => aa_ = #[(.ref a)] ∧ Z.Warmed39 UU_.vm ∧ UU_.heap = h0) (fun _ _ _ _ _ => True) (fun _ UU_ oo_ UV_ => ∃ vv_ LL_, oo_ = .returned vv_ ∧ Q_rmDq Z w0 w1 w2 w3 w4 w5 wV kV a w h0 n0 vv_ UV_.heap LL_ ∧ FrameEnd UU_ oo_ UV_ LL_ ({ frames := 0, cells := 0, slots := 0, locals := 0 } : Room).cells ({ frames := 0, cells := 0, slots := 0, locals := 0 } : Room).slots) := by
  refine MetFree.of_bodySF (plainFor_of_name own_pn_com_example_redoubt_redoubt_core_Direction) hisR ?_
  intro p e s m args below meth c s₁ Bd hml0 hP hK
  obtain ⟨rfl, hZ, hh⟩ := hP
  have hx := Bd.exec
  have hby := Bd.bytes
  have hml : c.maxLocals = 1 := hml0
  have hown : s.vm.findClass "com/example/redoubt/redoubt/core/Direction" = some m.cls := findClass_of_methodNamed Bd.named
  have hnm := (name_of_methodNamed Bd.named Bd.method).1
  have X0 : Stand p l e ({ frames := 0, cells := 0, slots := 0, locals := 0 } : Room) s m #[(.ref a)] below meth c s₁ [] 0 0 := Stand.of_body Bd
  have e0 : s₁.heap = h0 := by rw [← hh, Bd.state]; rfl
  have N0 := Fr.nil n0
  have hn0 : Z.heap.size = n0 := O0.1
  have KT0 : Keep h0 h0 [] := Keep.refl _ _
  refine own_enter (Φ := fun oo_ UV_ => ∃ vv_ LL_, oo_ = .returned vv_ ∧ Q_rmDq Z w0 w1 w2 w3 w4 w5 wV kV a w h0 n0 vv_ UV_.heap LL_ ∧ FrameEnd s oo_ UV_ LL_ ({ frames := 0, cells := 0, slots := 0, locals := 0 } : Room).cells ({ frames := 0, cells := 0, slots := 0, locals := 0 } : Room).slots) (own_ef_rmDq m a) ?_
  refine own_by (T' := s₁) (g' := (mkF m 1 #[.val (.ref a)] [(.ref a)])) (fun _ kt_ => XS.aloadN X0.here hx rfl (hb hby own_d2_0) rfl rfl kt_) ?_
  obtain ⟨T1, X1, e1, st1⟩ := getF X0 hx hZ hown (host := "") (Or.inl (hw _ (List.mem_of_getElem? (i := 14) rfl))) Via.refl e0 Fw (g := (mkF m 1 #[.val (.ref a)] [(.ref a)])) rfl rfl (hb hby own_d2_1)
  refine own_by (T' := T1) (g' := (mkF m 4 #[.val (.ref a)] [(.int w)])) st1 ?_
  obtain ⟨fs2, hr2, hrun2, hended2, hW2, hsame2⟩ := X1.leave (v := some (.int w)) (fun h => by rw [Bd.returns] at h; cases h)
  refine ⟨_, _, retOut X1 hx (t := .int) Bd.returns rfl (Or.inl ⟨rfl, Or.inl rfl, _, rfl⟩) (hb hby own_d2_4) hr2, hrun2, hended2, _, _, rfl, ?_, ⟨_, rfl⟩, hW2, hsame2.mono (by decide) (by decide)⟩
  show Q_rmDq Z w0 w1 w2 w3 w4 w5 wV kV a w h0 n0 _ T1.heap _
  exact ⟨rfl, N0, e1⟩
theorem own_d3_0 : decode prog_6_method_5_code 0 = .ok (.aload_n 0, 1) := by decide +kernel
theorem own_d3_1 : decode prog_6_method_5_code 1 = .ok (.getfield 45, 3) := by decide +kernel
theorem own_d3_4 : decode prog_6_method_5_code 4 = .ok (.ireturn, 1) := by decide +kernel
theorem own_ef_rmDr (m : MethodId) (x0 : Addr) : entryFrame m #[(.ref x0)] 1 = mkF m 0 #[.val (.ref x0)] [] := by first | (simp [entryFrame, mkF, argsToLocals, Value.category]; done) | rfl
def Q_rmDr (Z : State) (w0 : Addr) (w1 : Addr) (w2 : Addr) (w3 : Addr) (w4 : Addr) (w5 : Addr) (wV : Addr) (kV : ClassId) (a : Addr) (w : Int32) (h0 : Heap) (n0 : Nat) (vv_ : Option Value) (hh_ : Heap) (LL_ : List Loc) : Prop := vv_ = some (.int w) ∧ Fr n0 LL_ ∧ hh_ = h0
set_option maxRecDepth 65536 in
set_option maxHeartbeats 40000000 in
theorem rmDr (l : Launch) (Z : State) (a0 : Array Value) (hw : ∀ d ∈ tables_1, d.before a0 Z = true) (ws : List Jvm.Cond) (w0 : Addr) (w1 : Addr) (w2 : Addr) (w3 : Addr) (w4 : Addr) (w5 : Addr) (wV : Addr) (kV : ClassId) (GS : Glob Z w0 w1 w2 w3 w4 w5 wV kV) (a : Addr) (w : Int32) (h0 : Heap) (n0 : Nat) (Z0 : n0 ≤ h0.size) (O0 : Old Z n0 h0) (Fw : Fld Z h0 a "com/example/redoubt/redoubt/core/Direction" "dr" "I" (.int w)) :
    MetFree l (⟨"com/example/redoubt/redoubt/core/Direction", "dr", "()I"⟩ : MethodName) (head1 (Jvm.Cond.code (⟨"com/example/redoubt/redoubt/core/Direction", "dr", "()I"⟩ : MethodName) prog_6_method_5_code 1 (some .int) :: ws) ({ frames := 0, cells := 0, slots := 0, locals := 0 } : Room)) (fun aa_ UU_ => aa_ = #[(.ref a)] ∧ Z.Warmed39 UU_.vm ∧ UU_.heap = h0) (fun _ _ _ _ _ => True) (fun _ UU_ oo_ UV_ => ∃ vv_ LL_, oo_ = .returned vv_ ∧ Q_rmDr Z w0 w1 w2 w3 w4 w5 wV kV a w h0 n0 vv_ UV_.heap LL_ ∧ FrameEnd UU_ oo_ UV_ LL_ ({ frames := 0, cells := 0, slots := 0, locals := 0 } : Room).cells ({ frames := 0, cells := 0, slots := 0, locals := 0 } : Room).slots) := by
  refine MetFree.of_bodySF (plainFor_of_name own_pn_com_example_redoubt_redoubt_core_Direction) hisR ?_
  intro p e s m args below meth c s₁ Bd hml0 hP hK
  obtain ⟨rfl, hZ, hh⟩ := hP
  have hx := Bd.exec
  have hby := Bd.bytes
  have hml : c.maxLocals = 1 := hml0
  have hown : s.vm.findClass "com/example/redoubt/redoubt/core/Direction" = some m.cls := findClass_of_methodNamed Bd.named
  have hnm := (name_of_methodNamed Bd.named Bd.method).1
  have X0 : Stand p l e ({ frames := 0, cells := 0, slots := 0, locals := 0 } : Room) s m #[(.ref a)] below meth c s₁ [] 0 0 := Stand.of_body Bd
  have e0 : s₁.heap = h0 := by rw [← hh, Bd.state]; rfl
  have N0 := Fr.nil n0
  have hn0 : Z.heap.size = n0 := O0.1
  have KT0 : Keep h0 h0 [] := Keep.refl _ _
  refine own_enter (Φ := fun oo_ UV_ => ∃ vv_ LL_, oo_ = .returned vv_ ∧ Q_rmDr Z w0 w1 w2 w3 w4 w5 wV kV a w h0 n0 vv_ UV_.heap LL_ ∧ FrameEnd s oo_ UV_ LL_ ({ frames := 0, cells := 0, slots := 0, locals := 0 } : Room).cells ({ frames := 0, cells := 0, slots := 0, locals := 0 } : Room).slots) (own_ef_rmDr m a) ?_
  refine own_by (T' := s₁) (g' := (mkF m 1 #[.val (.ref a)] [(.ref a)])) (fun _ kt_ => XS.aloadN X0.here hx rfl (hb hby own_d3_0) rfl rfl kt_) ?_
  obtain ⟨T1, X1, e1, st1⟩ := getF X0 hx hZ hown (host := "") (Or.inl (hw _ (List.mem_of_getElem? (i := 21) rfl))) Via.refl e0 Fw (g := (mkF m 1 #[.val (.ref a)] [(.ref a)])) rfl rfl (hb hby own_d3_1)
  refine own_by (T' := T1) (g' := (mkF m 4 #[.val (.ref a)] [(.int w)])) st1 ?_
  obtain ⟨fs2, hr2, hrun2, hended2, hW2, hsame2⟩ := X1.leave (v := some (.int w)) (fun h => by rw [Bd.returns] at h; cases h)
  refine ⟨_, _, retOut X1 hx (t := .int) Bd.returns rfl (Or.inl ⟨rfl, Or.inl rfl, _, rfl⟩) (hb hby own_d3_4) hr2, hrun2, hended2, _, _, rfl, ?_, ⟨_, rfl⟩, hW2, hsame2.mono (by decide) (by decide)⟩
  show Q_rmDr Z w0 w1 w2 w3 w4 w5 wV kV a w h0 n0 _ T1.heap _
  exact ⟨rfl, N0, e1⟩
theorem own_d7_0 : decode jdk_29_method_50_code 0 = .ok (.iload_n 0, 1) := by decide +kernel
theorem own_d7_1 : decode jdk_29_method_50_code 1 = .ok (.iload_n 1, 1) := by decide +kernel
theorem own_d7_2 : decode jdk_29_method_50_code 2 = .ok (.irem, 1) := by decide +kernel
theorem own_d7_3 : decode jdk_29_method_50_code 3 = .ok (.istore_n 2, 1) := by decide +kernel
theorem own_d7_4 : decode jdk_29_method_50_code 4 = .ok (.iload_n 0, 1) := by decide +kernel
theorem own_d7_5 : decode jdk_29_method_50_code 5 = .ok (.iload_n 1, 1) := by decide +kernel
theorem own_d7_6 : decode jdk_29_method_50_code 6 = .ok (.ixor, 1) := by decide +kernel
theorem own_d7_7 : decode jdk_29_method_50_code 7 = .ok (.ifCond .ge 11, 3) := by decide +kernel
theorem own_d7_10 : decode jdk_29_method_50_code 10 = .ok (.iload_n 2, 1) := by decide +kernel
theorem own_d7_11 : decode jdk_29_method_50_code 11 = .ok (.ifCond .eq 7, 3) := by decide +kernel
theorem own_d7_14 : decode jdk_29_method_50_code 14 = .ok (.iload_n 2, 1) := by decide +kernel
theorem own_d7_15 : decode jdk_29_method_50_code 15 = .ok (.iload_n 1, 1) := by decide +kernel
theorem own_d7_16 : decode jdk_29_method_50_code 16 = .ok (.iadd, 1) := by decide +kernel
theorem own_d7_17 : decode jdk_29_method_50_code 17 = .ok (.ireturn, 1) := by decide +kernel
theorem own_d7_18 : decode jdk_29_method_50_code 18 = .ok (.iload_n 2, 1) := by decide +kernel
theorem own_d7_19 : decode jdk_29_method_50_code 19 = .ok (.ireturn, 1) := by decide +kernel
theorem own_ef_rmFm (m : MethodId) (x0 : Int32) (x1 : Int32) : entryFrame m #[(.int x0), (.int x1)] 3 = mkF m 0 #[.val (.int x0), .val (.int x1), .unset] [] := by first | (simp [entryFrame, mkF, argsToLocals, Value.category]; done) | rfl
def Q_rmFm (Z : State) (w0 : Addr) (w1 : Addr) (w2 : Addr) (w3 : Addr) (w4 : Addr) (w5 : Addr) (wV : Addr) (kV : ClassId) (x : Int32) (y : Int32) (h0 : Heap) (n0 : Nat) (vv_ : Option Value) (hh_ : Heap) (LL_ : List Loc) : Prop := vv_ = some (.int (fmF x y)) ∧ Fr n0 LL_ ∧ hh_ = h0
set_option maxRecDepth 65536 in
set_option maxHeartbeats 40000000 in
theorem rmFm (l : Launch) (Z : State) (a0 : Array Value) (hw : ∀ d ∈ tables_1, d.before a0 Z = true) (ws : List Jvm.Cond) (w0 : Addr) (w1 : Addr) (w2 : Addr) (w3 : Addr) (w4 : Addr) (w5 : Addr) (wV : Addr) (kV : ClassId) (GS : Glob Z w0 w1 w2 w3 w4 w5 wV kV) (x : Int32) (y : Int32) (h0 : Heap) (n0 : Nat) (Z0 : n0 ≤ h0.size) (O0 : Old Z n0 h0) (hy : y ≠ 0) :
    MetFree l (⟨"java/lang/Math", "floorMod", "(II)I"⟩ : MethodName) (head1 (Jvm.Cond.code (⟨"java/lang/Math", "floorMod", "(II)I"⟩ : MethodName) jdk_29_method_50_code 3 (some .int) :: ws) ({ frames := 0, cells := 0, slots := 0, locals := 0 } : Room)) (fun aa_ UU_ => aa_ = #[(.int x), (.int y)] ∧ Z.Warmed39 UU_.vm ∧ UU_.heap = h0) (fun _ _ _ _ _ => True) (fun _ UU_ oo_ UV_ => ∃ vv_ LL_, oo_ = .returned vv_ ∧ Q_rmFm Z w0 w1 w2 w3 w4 w5 wV kV x y h0 n0 vv_ UV_.heap LL_ ∧ FrameEnd UU_ oo_ UV_ LL_ ({ frames := 0, cells := 0, slots := 0, locals := 0 } : Room).cells ({ frames := 0, cells := 0, slots := 0, locals := 0 } : Room).slots) := by
  refine MetFree.of_bodySF (Jvm.Free.JP.mathPlain rfl (by decide +kernel)) hisR ?_
  intro p e s m args below meth c s₁ Bd hml0 hP hK
  obtain ⟨rfl, hZ, hh⟩ := hP
  have hx := Bd.exec
  have hby := Bd.bytes
  have hml : c.maxLocals = 3 := hml0
  have hown : s.vm.findClass "java/lang/Math" = some m.cls := findClass_of_methodNamed Bd.named
  have hnm := (name_of_methodNamed Bd.named Bd.method).1
  have X0 : Stand p l e ({ frames := 0, cells := 0, slots := 0, locals := 0 } : Room) s m #[(.int x), (.int y)] below meth c s₁ [] 0 0 := Stand.of_body Bd
  have e0 : s₁.heap = h0 := by rw [← hh, Bd.state]; rfl
  have N0 := Fr.nil n0
  have hn0 : Z.heap.size = n0 := O0.1
  have KT0 : Keep h0 h0 [] := Keep.refl _ _
  refine own_enter (Φ := fun oo_ UV_ => ∃ vv_ LL_, oo_ = .returned vv_ ∧ Q_rmFm Z w0 w1 w2 w3 w4 w5 wV kV x y h0 n0 vv_ UV_.heap LL_ ∧ FrameEnd s oo_ UV_ LL_ ({ frames := 0, cells := 0, slots := 0, locals := 0 } : Room).cells ({ frames := 0, cells := 0, slots := 0, locals := 0 } : Room).slots) (own_ef_rmFm m x y) ?_
  refine own_by (T' := s₁) (g' := (mkF m 1 #[.val (.int x), .val (.int y), .unset] [(.int x)])) (fun _ kt_ => XS.iloadN X0.here hx rfl (hb hby own_d7_0) rfl kt_) ?_
  refine own_by (T' := s₁) (g' := (mkF m 2 #[.val (.int x), .val (.int y), .unset] [(.int y), (.int x)])) (fun _ kt_ => XS.iloadN X0.here hx rfl (hb hby own_d7_1) rfl kt_) ?_
  refine own_by (T' := s₁) (g' := (mkF m 3 #[.val (.int x), .val (.int y), .unset] [(.int (x % y))])) (fun _ kt_ => iremM X0 hx rfl (hb hby own_d7_2) rfl hy kt_) ?_
  refine own_by (T' := s₁) (g' := (mkF m 4 #[.val (.int x), .val (.int y), .val (.int (x % y))] [])) (fun _ kt_ => XS.istoreN X0.here hx rfl (hb hby own_d7_3) rfl (l' := #[.val (.int x), .val (.int y), .val (.int (x % y))]) rfl kt_) ?_
  refine own_by (T' := s₁) (g' := (mkF m 5 #[.val (.int x), .val (.int y), .val (.int (x % y))] [(.int x)])) (fun _ kt_ => XS.iloadN X0.here hx rfl (hb hby own_d7_4) rfl kt_) ?_
  refine own_by (T' := s₁) (g' := (mkF m 6 #[.val (.int x), .val (.int y), .val (.int (x % y))] [(.int y), (.int x)])) (fun _ kt_ => XS.iloadN X0.here hx rfl (hb hby own_d7_5) rfl kt_) ?_
  refine own_by (T' := s₁) (g' := (mkF m 7 #[.val (.int x), .val (.int y), .val (.int (x % y))] [(.int (x ^^^ y))])) (fun _ kt_ => XS.ixor X0.here hx rfl (hb hby own_d7_6) rfl kt_) ?_
  by_cases hc1 : (x ^^^ y) < (0 : Int32)
  · refine own_by (T' := s₁) (g' := (mkF m 10 #[.val (.int x), .val (.int y), .val (.int (x % y))] [])) (fun _ kt_ => XS.ifNo X0.here hx rfl (hb hby own_d7_7) rfl (XT.i0_ge_f hc1) kt_) ?_
    refine own_by (T' := s₁) (g' := (mkF m 11 #[.val (.int x), .val (.int y), .val (.int (x % y))] [(.int (x % y))])) (fun _ kt_ => XS.iloadN X0.here hx rfl (hb hby own_d7_10) rfl kt_) ?_
    by_cases hc2 : (x % y) = (0 : Int32)
    · refine own_by (T' := s₁) (g' := (mkF m 18 #[.val (.int x), .val (.int y), .val (.int (x % y))] [])) (fun _ kt_ => XS.ifYes X0.here hx rfl (pc0 := 11) (pc' := 18) rfl (hb hby own_d7_11) rfl (XT.i0_eq_t hc2) (by decide) (by decide) kt_) ?_
      refine own_by (T' := s₁) (g' := (mkF m 19 #[.val (.int x), .val (.int y), .val (.int (x % y))] [(.int (x % y))])) (fun _ kt_ => XS.iloadN X0.here hx rfl (hb hby own_d7_18) rfl kt_) ?_
      have hr3 : (x % y) = (fmF x y) := by simp [fmF, hc1, hc2]
      obtain ⟨fs4, hr4, hrun4, hended4, hW4, hsame4⟩ := X0.leave (v := some (.int (x % y))) (fun h => by rw [Bd.returns] at h; cases h)
      refine ⟨_, _, retOut X0 hx (t := .int) Bd.returns rfl (Or.inl ⟨rfl, Or.inl rfl, _, rfl⟩) (hb hby own_d7_19) hr4, hrun4, hended4, _, _, rfl, ?_, ⟨_, rfl⟩, hW4, hsame4.mono (by decide) (by decide)⟩
      show Q_rmFm Z w0 w1 w2 w3 w4 w5 wV kV x y h0 n0 _ s₁.heap _
      exact ⟨(congrArg (fun z => some (Value.int z)) hr3), N0, e0⟩
    · refine own_by (T' := s₁) (g' := (mkF m 14 #[.val (.int x), .val (.int y), .val (.int (x % y))] [])) (fun _ kt_ => XS.ifNo X0.here hx rfl (hb hby own_d7_11) rfl (XT.i0_eq_f hc2) kt_) ?_
      refine own_by (T' := s₁) (g' := (mkF m 15 #[.val (.int x), .val (.int y), .val (.int (x % y))] [(.int (x % y))])) (fun _ kt_ => XS.iloadN X0.here hx rfl (hb hby own_d7_14) rfl kt_) ?_
      refine own_by (T' := s₁) (g' := (mkF m 16 #[.val (.int x), .val (.int y), .val (.int (x % y))] [(.int y), (.int (x % y))])) (fun _ kt_ => XS.iloadN X0.here hx rfl (hb hby own_d7_15) rfl kt_) ?_
      refine own_by (T' := s₁) (g' := (mkF m 17 #[.val (.int x), .val (.int y), .val (.int (x % y))] [(.int ((x % y) + y))])) (fun _ kt_ => XS.iadd X0.here hx rfl (hb hby own_d7_16) rfl kt_) ?_
      have hr5 : ((x % y) + y) = (fmF x y) := by simp [fmF, hc1, hc2]
      obtain ⟨fs6, hr6, hrun6, hended6, hW6, hsame6⟩ := X0.leave (v := some (.int ((x % y) + y))) (fun h => by rw [Bd.returns] at h; cases h)
      refine ⟨_, _, retOut X0 hx (t := .int) Bd.returns rfl (Or.inl ⟨rfl, Or.inl rfl, _, rfl⟩) (hb hby own_d7_17) hr6, hrun6, hended6, _, _, rfl, ?_, ⟨_, rfl⟩, hW6, hsame6.mono (by decide) (by decide)⟩
      show Q_rmFm Z w0 w1 w2 w3 w4 w5 wV kV x y h0 n0 _ s₁.heap _
      exact ⟨(congrArg (fun z => some (Value.int z)) hr5), N0, e0⟩
  · refine own_by (T' := s₁) (g' := (mkF m 18 #[.val (.int x), .val (.int y), .val (.int (x % y))] [])) (fun _ kt_ => XS.ifYes X0.here hx rfl (pc0 := 7) (pc' := 18) rfl (hb hby own_d7_7) rfl (XT.i0_ge_t hc1) (by decide) (by decide) kt_) ?_
    refine own_by (T' := s₁) (g' := (mkF m 19 #[.val (.int x), .val (.int y), .val (.int (x % y))] [(.int (x % y))])) (fun _ kt_ => XS.iloadN X0.here hx rfl (hb hby own_d7_18) rfl kt_) ?_
    have hr7 : (x % y) = (fmF x y) := by simp [fmF, hc1]
    obtain ⟨fs8, hr8, hrun8, hended8, hW8, hsame8⟩ := X0.leave (v := some (.int (x % y))) (fun h => by rw [Bd.returns] at h; cases h)
    refine ⟨_, _, retOut X0 hx (t := .int) Bd.returns rfl (Or.inl ⟨rfl, Or.inl rfl, _, rfl⟩) (hb hby own_d7_19) hr8, hrun8, hended8, _, _, rfl, ?_, ⟨_, rfl⟩, hW8, hsame8.mono (by decide) (by decide)⟩
    show Q_rmFm Z w0 w1 w2 w3 w4 w5 wV kV x y h0 n0 _ s₁.heap _
    exact ⟨(congrArg (fun z => some (Value.int z)) hr7), N0, e0⟩
theorem own_d1_0 : decode method_2_code 0 = .ok (.iload_n 0, 1) := by decide +kernel
theorem own_d1_1 : decode method_2_code 1 = .ok (.ifCond .ne 7, 3) := by decide +kernel
theorem own_d1_4 : decode method_2_code 4 = .ok (.getstatic 7, 3) := by decide +kernel
theorem own_d1_7 : decode method_2_code 7 = .ok (.areturn, 1) := by decide +kernel
theorem own_d1_8 : decode method_2_code 8 = .ok (.iload_n 0, 1) := by decide +kernel
theorem own_d1_9 : decode method_2_code 9 = .ok (.iconst 1, 1) := by decide +kernel
theorem own_d1_10 : decode method_2_code 10 = .ok (.if_icmp .ne 7, 3) := by decide +kernel
theorem own_d1_13 : decode method_2_code 13 = .ok (.getstatic 13, 3) := by decide +kernel
theorem own_d1_16 : decode method_2_code 16 = .ok (.areturn, 1) := by decide +kernel
theorem own_d1_17 : decode method_2_code 17 = .ok (.iload_n 0, 1) := by decide +kernel
theorem own_d1_18 : decode method_2_code 18 = .ok (.iconst 2, 1) := by decide +kernel
theorem own_d1_19 : decode method_2_code 19 = .ok (.if_icmp .ne 7, 3) := by decide +kernel
theorem own_d1_22 : decode method_2_code 22 = .ok (.getstatic 16, 3) := by decide +kernel
theorem own_d1_25 : decode method_2_code 25 = .ok (.areturn, 1) := by decide +kernel
theorem own_d1_26 : decode method_2_code 26 = .ok (.iload_n 0, 1) := by decide +kernel
theorem own_d1_27 : decode method_2_code 27 = .ok (.iconst 3, 1) := by decide +kernel
theorem own_d1_28 : decode method_2_code 28 = .ok (.if_icmp .ne 7, 3) := by decide +kernel
theorem own_d1_31 : decode method_2_code 31 = .ok (.getstatic 19, 3) := by decide +kernel
theorem own_d1_34 : decode method_2_code 34 = .ok (.areturn, 1) := by decide +kernel
theorem own_d1_35 : decode method_2_code 35 = .ok (.iload_n 0, 1) := by decide +kernel
theorem own_d1_36 : decode method_2_code 36 = .ok (.iconst 4, 1) := by decide +kernel
theorem own_d1_37 : decode method_2_code 37 = .ok (.if_icmp .ne 7, 3) := by decide +kernel
theorem own_d1_40 : decode method_2_code 40 = .ok (.getstatic 22, 3) := by decide +kernel
theorem own_d1_43 : decode method_2_code 43 = .ok (.areturn, 1) := by decide +kernel
theorem own_d1_44 : decode method_2_code 44 = .ok (.getstatic 25, 3) := by decide +kernel
theorem own_d1_47 : decode method_2_code 47 = .ok (.areturn, 1) := by decide +kernel
theorem own_pn_com_example_redoubt_redoubt_core_DirectionClockwisePinLaw : plainName "com/example/redoubt/redoubt/core/DirectionClockwisePinLaw" = true := by first | (simp [plainName, overriddenIn]; done) | decide +kernel
theorem own_ef_rmP (m : MethodId) (x0 : Int32) : entryFrame m #[(.int x0)] 1 = mkF m 0 #[.val (.int x0)] [] := by first | (simp [entryFrame, mkF, argsToLocals, Value.category]; done) | rfl
def Q_rmP (Z : State) (w0 : Addr) (w1 : Addr) (w2 : Addr) (w3 : Addr) (w4 : Addr) (w5 : Addr) (wV : Addr) (kV : ClassId) (i : Int32) (h0 : Heap) (n0 : Nat) (vv_ : Option Value) (hh_ : Heap) (LL_ : List Loc) : Prop := ∃ t : Addr, ∃ od : Int32, vv_ = some (.ref t) ∧ Fr n0 LL_ ∧ hh_ = h0 ∧ Exa Z hh_ t "com/example/redoubt/redoubt/core/Direction" ∧ Fld Z hh_ t "java/lang/Enum" "ordinal" "I" (.int od) ∧ Fld Z hh_ t "com/example/redoubt/redoubt/core/Direction" "dq" "I" (.int (dqF od)) ∧ Fld Z hh_ t "com/example/redoubt/redoubt/core/Direction" "dr" "I" (.int (drF od)) ∧ 0 ≤ od.toInt ∧ od.toInt < 6
set_option maxRecDepth 65536 in
set_option maxHeartbeats 40000000 in
theorem rmP (l : Launch) (Z : State) (a0 : Array Value) (hw : ∀ d ∈ tables_1, d.before a0 Z = true) (ws : List Jvm.Cond) (w0 : Addr) (w1 : Addr) (w2 : Addr) (w3 : Addr) (w4 : Addr) (w5 : Addr) (wV : Addr) (kV : ClassId) (GS : Glob Z w0 w1 w2 w3 w4 w5 wV kV) (i : Int32) (h0 : Heap) (n0 : Nat) (Z0 : n0 ≤ h0.size) (O0 : Old Z n0 h0) :
    MetFree l (⟨"com/example/redoubt/redoubt/core/DirectionClockwisePinLaw", "pick", "(I)Lcom/example/redoubt/redoubt/core/Direction;"⟩ : MethodName) (head1 (Jvm.Cond.code (⟨"com/example/redoubt/redoubt/core/DirectionClockwisePinLaw", "pick", "(I)Lcom/example/redoubt/redoubt/core/Direction;"⟩ : MethodName) method_2_code 1 (some (.object "com/example/redoubt/redoubt/core/Direction")) :: ws) ({ frames := 0, cells := 0, slots := 0, locals := 0 } : Room)) (fun aa_ UU_ => aa_ = #[(.int i)] ∧ Z.Warmed39 UU_.vm ∧ UU_.heap = h0) (fun _ _ _ _ _ => True) (fun _ UU_ oo_ UV_ => ∃ vv_ LL_, oo_ = .returned vv_ ∧ Q_rmP Z w0 w1 w2 w3 w4 w5 wV kV i h0 n0 vv_ UV_.heap LL_ ∧ FrameEnd UU_ oo_ UV_ LL_ ({ frames := 0, cells := 0, slots := 0, locals := 0 } : Room).cells ({ frames := 0, cells := 0, slots := 0, locals := 0 } : Room).slots) := by
  refine MetFree.of_bodySF (plainFor_of_name own_pn_com_example_redoubt_redoubt_core_DirectionClockwisePinLaw) hisR ?_
  intro p e s m args below meth c s₁ Bd hml0 hP hK
  obtain ⟨rfl, hZ, hh⟩ := hP
  have hx := Bd.exec
  have hby := Bd.bytes
  have hml : c.maxLocals = 1 := hml0
  have hown : s.vm.findClass "com/example/redoubt/redoubt/core/DirectionClockwisePinLaw" = some m.cls := findClass_of_methodNamed Bd.named
  have hnm := (name_of_methodNamed Bd.named Bd.method).1
  have X0 : Stand p l e ({ frames := 0, cells := 0, slots := 0, locals := 0 } : Room) s m #[(.int i)] below meth c s₁ [] 0 0 := Stand.of_body Bd
  have e0 : s₁.heap = h0 := by rw [← hh, Bd.state]; rfl
  have N0 := Fr.nil n0
  have hn0 : Z.heap.size = n0 := O0.1
  have KT0 : Keep h0 h0 [] := Keep.refl _ _
  refine own_enter (Φ := fun oo_ UV_ => ∃ vv_ LL_, oo_ = .returned vv_ ∧ Q_rmP Z w0 w1 w2 w3 w4 w5 wV kV i h0 n0 vv_ UV_.heap LL_ ∧ FrameEnd s oo_ UV_ LL_ ({ frames := 0, cells := 0, slots := 0, locals := 0 } : Room).cells ({ frames := 0, cells := 0, slots := 0, locals := 0 } : Room).slots) (own_ef_rmP m i) ?_
  refine own_by (T' := s₁) (g' := (mkF m 1 #[.val (.int i)] [(.int i)])) (fun _ kt_ => XS.iloadN X0.here hx rfl (hb hby own_d1_0) rfl kt_) ?_
  by_cases hc1 : i = (0 : Int32)
  · refine own_by (T' := s₁) (g' := (mkF m 4 #[.val (.int i)] [])) (fun _ kt_ => XS.ifNo X0.here hx rfl (hb hby own_d1_1) rfl (XT.i0_ne_f hc1) kt_) ?_
    have f2 := GS.1.ext O0.2
    obtain ⟨T3, X3, e3, st3⟩ := getS2 X0 hx hZ hown (host := "") (Or.inl (hw _ (List.mem_of_getElem? (i := 5) rfl))) Via.refl e0 f2 (g := (mkF m 4 #[.val (.int i)] [])) rfl (hb hby own_d1_4)
    refine own_by (T' := T3) (g' := (mkF m 7 #[.val (.int i)] [(.ref w0)])) st3 ?_
    have f4 := GS.2.1.ext O0.2
    have f5 := GS.2.2.1.ext O0.2
    have f6 := GS.2.2.2.1.ext O0.2
    have hv7 : ((.int (0 : Int32)) : Value) = (.int (dqF (0 : Int32))) := rfl
    have f8 := GS.2.2.2.2.1.ext O0.2
    have hv9 : ((.int (-1 : Int32)) : Value) = (.int (drF (0 : Int32))) := rfl
    obtain ⟨fs10, hr10, hrun10, hended10, hW10, hsame10⟩ := X3.leave (v := some (.ref w0)) (fun h => by rw [Bd.returns] at h; cases h)
    refine ⟨_, _, retOut X3 hx (t := (.object "com/example/redoubt/redoubt/core/Direction")) Bd.returns rfl (Or.inr (Or.inr (Or.inr (Or.inr ⟨rfl, rfl, rfl⟩)))) (hb hby own_d1_7) hr10, hrun10, hended10, _, _, rfl, ?_, ⟨_, rfl⟩, hW10, hsame10.mono (by decide) (by decide)⟩
    show Q_rmP Z w0 w1 w2 w3 w4 w5 wV kV i h0 n0 _ T3.heap _
    rw [e3]
    exact ⟨w0, (0 : Int32), rfl, N0, rfl, f4, f5, (hv7 ▸ f6), (hv9 ▸ f8), (⟨by decide, by decide⟩)⟩
  · refine own_by (T' := s₁) (g' := (mkF m 8 #[.val (.int i)] [])) (fun _ kt_ => XS.ifYes X0.here hx rfl (pc0 := 1) (pc' := 8) rfl (hb hby own_d1_1) rfl (XT.i0_ne_t hc1) (by decide) (by decide) kt_) ?_
    refine own_by (T' := s₁) (g' := (mkF m 9 #[.val (.int i)] [(.int i)])) (fun _ kt_ => XS.iloadN X0.here hx rfl (hb hby own_d1_8) rfl kt_) ?_
    refine own_by (T' := s₁) (g' := (mkF m 10 #[.val (.int i)] [(.int (1 : Int32)), (.int i)])) (fun _ kt_ => XS.iconst X0.here hx rfl (hb hby own_d1_9) kt_) ?_
    by_cases hc11 : i = (1 : Int32)
    · refine own_by (T' := s₁) (g' := (mkF m 13 #[.val (.int i)] [])) (fun _ kt_ => XS.icmpNo X0.here hx rfl (hb hby own_d1_10) rfl (XT.ii_ne_f hc11) kt_) ?_
      have f12 := GS.2.2.2.2.2.1.ext O0.2
      obtain ⟨T13, X13, e13, st13⟩ := getS2 X0 hx hZ hown (host := "") (Or.inl (hw _ (List.mem_of_getElem? (i := 63) rfl))) Via.refl e0 f12 (g := (mkF m 13 #[.val (.int i)] [])) rfl (hb hby own_d1_13)
      refine own_by (T' := T13) (g' := (mkF m 16 #[.val (.int i)] [(.ref w1)])) st13 ?_
      have f14 := GS.2.2.2.2.2.2.1.ext O0.2
      have f15 := GS.2.2.2.2.2.2.2.1.ext O0.2
      have f16 := GS.2.2.2.2.2.2.2.2.1.ext O0.2
      have hv17 : ((.int (1 : Int32)) : Value) = (.int (dqF (1 : Int32))) := rfl
      have f18 := GS.2.2.2.2.2.2.2.2.2.1.ext O0.2
      have hv19 : ((.int (-1 : Int32)) : Value) = (.int (drF (1 : Int32))) := rfl
      obtain ⟨fs20, hr20, hrun20, hended20, hW20, hsame20⟩ := X13.leave (v := some (.ref w1)) (fun h => by rw [Bd.returns] at h; cases h)
      refine ⟨_, _, retOut X13 hx (t := (.object "com/example/redoubt/redoubt/core/Direction")) Bd.returns rfl (Or.inr (Or.inr (Or.inr (Or.inr ⟨rfl, rfl, rfl⟩)))) (hb hby own_d1_16) hr20, hrun20, hended20, _, _, rfl, ?_, ⟨_, rfl⟩, hW20, hsame20.mono (by decide) (by decide)⟩
      show Q_rmP Z w0 w1 w2 w3 w4 w5 wV kV i h0 n0 _ T13.heap _
      rw [e13]
      exact ⟨w1, (1 : Int32), rfl, N0, rfl, f14, f15, (hv17 ▸ f16), (hv19 ▸ f18), (⟨by decide, by decide⟩)⟩
    · refine own_by (T' := s₁) (g' := (mkF m 17 #[.val (.int i)] [])) (fun _ kt_ => XS.icmpYes X0.here hx rfl (pc0 := 10) (pc' := 17) rfl (hb hby own_d1_10) rfl (XT.ii_ne_t hc11) (by decide) (by decide) kt_) ?_
      refine own_by (T' := s₁) (g' := (mkF m 18 #[.val (.int i)] [(.int i)])) (fun _ kt_ => XS.iloadN X0.here hx rfl (hb hby own_d1_17) rfl kt_) ?_
      refine own_by (T' := s₁) (g' := (mkF m 19 #[.val (.int i)] [(.int (2 : Int32)), (.int i)])) (fun _ kt_ => XS.iconst X0.here hx rfl (hb hby own_d1_18) kt_) ?_
      by_cases hc21 : i = (2 : Int32)
      · refine own_by (T' := s₁) (g' := (mkF m 22 #[.val (.int i)] [])) (fun _ kt_ => XS.icmpNo X0.here hx rfl (hb hby own_d1_19) rfl (XT.ii_ne_f hc21) kt_) ?_
        have f22 := GS.2.2.2.2.2.2.2.2.2.2.1.ext O0.2
        obtain ⟨T23, X23, e23, st23⟩ := getS2 X0 hx hZ hown (host := "") (Or.inl (hw _ (List.mem_of_getElem? (i := 61) rfl))) Via.refl e0 f22 (g := (mkF m 22 #[.val (.int i)] [])) rfl (hb hby own_d1_22)
        refine own_by (T' := T23) (g' := (mkF m 25 #[.val (.int i)] [(.ref w2)])) st23 ?_
        have f24 := GS.2.2.2.2.2.2.2.2.2.2.2.1.ext O0.2
        have f25 := GS.2.2.2.2.2.2.2.2.2.2.2.2.1.ext O0.2
        have f26 := GS.2.2.2.2.2.2.2.2.2.2.2.2.2.1.ext O0.2
        have hv27 : ((.int (1 : Int32)) : Value) = (.int (dqF (2 : Int32))) := rfl
        have f28 := GS.2.2.2.2.2.2.2.2.2.2.2.2.2.2.1.ext O0.2
        have hv29 : ((.int (0 : Int32)) : Value) = (.int (drF (2 : Int32))) := rfl
        obtain ⟨fs30, hr30, hrun30, hended30, hW30, hsame30⟩ := X23.leave (v := some (.ref w2)) (fun h => by rw [Bd.returns] at h; cases h)
        refine ⟨_, _, retOut X23 hx (t := (.object "com/example/redoubt/redoubt/core/Direction")) Bd.returns rfl (Or.inr (Or.inr (Or.inr (Or.inr ⟨rfl, rfl, rfl⟩)))) (hb hby own_d1_25) hr30, hrun30, hended30, _, _, rfl, ?_, ⟨_, rfl⟩, hW30, hsame30.mono (by decide) (by decide)⟩
        show Q_rmP Z w0 w1 w2 w3 w4 w5 wV kV i h0 n0 _ T23.heap _
        rw [e23]
        exact ⟨w2, (2 : Int32), rfl, N0, rfl, f24, f25, (hv27 ▸ f26), (hv29 ▸ f28), (⟨by decide, by decide⟩)⟩
      · refine own_by (T' := s₁) (g' := (mkF m 26 #[.val (.int i)] [])) (fun _ kt_ => XS.icmpYes X0.here hx rfl (pc0 := 19) (pc' := 26) rfl (hb hby own_d1_19) rfl (XT.ii_ne_t hc21) (by decide) (by decide) kt_) ?_
        refine own_by (T' := s₁) (g' := (mkF m 27 #[.val (.int i)] [(.int i)])) (fun _ kt_ => XS.iloadN X0.here hx rfl (hb hby own_d1_26) rfl kt_) ?_
        refine own_by (T' := s₁) (g' := (mkF m 28 #[.val (.int i)] [(.int (3 : Int32)), (.int i)])) (fun _ kt_ => XS.iconst X0.here hx rfl (hb hby own_d1_27) kt_) ?_
        by_cases hc31 : i = (3 : Int32)
        · refine own_by (T' := s₁) (g' := (mkF m 31 #[.val (.int i)] [])) (fun _ kt_ => XS.icmpNo X0.here hx rfl (hb hby own_d1_28) rfl (XT.ii_ne_f hc31) kt_) ?_
          have f32 := GS.2.2.2.2.2.2.2.2.2.2.2.2.2.2.2.1.ext O0.2
          obtain ⟨T33, X33, e33, st33⟩ := getS2 X0 hx hZ hown (host := "") (Or.inl (hw _ (List.mem_of_getElem? (i := 65) rfl))) Via.refl e0 f32 (g := (mkF m 31 #[.val (.int i)] [])) rfl (hb hby own_d1_31)
          refine own_by (T' := T33) (g' := (mkF m 34 #[.val (.int i)] [(.ref w3)])) st33 ?_
          have f34 := GS.2.2.2.2.2.2.2.2.2.2.2.2.2.2.2.2.1.ext O0.2
          have f35 := GS.2.2.2.2.2.2.2.2.2.2.2.2.2.2.2.2.2.1.ext O0.2
          have f36 := GS.2.2.2.2.2.2.2.2.2.2.2.2.2.2.2.2.2.2.1.ext O0.2
          have hv37 : ((.int (0 : Int32)) : Value) = (.int (dqF (3 : Int32))) := rfl
          have f38 := GS.2.2.2.2.2.2.2.2.2.2.2.2.2.2.2.2.2.2.2.1.ext O0.2
          have hv39 : ((.int (1 : Int32)) : Value) = (.int (drF (3 : Int32))) := rfl
          obtain ⟨fs40, hr40, hrun40, hended40, hW40, hsame40⟩ := X33.leave (v := some (.ref w3)) (fun h => by rw [Bd.returns] at h; cases h)
          refine ⟨_, _, retOut X33 hx (t := (.object "com/example/redoubt/redoubt/core/Direction")) Bd.returns rfl (Or.inr (Or.inr (Or.inr (Or.inr ⟨rfl, rfl, rfl⟩)))) (hb hby own_d1_34) hr40, hrun40, hended40, _, _, rfl, ?_, ⟨_, rfl⟩, hW40, hsame40.mono (by decide) (by decide)⟩
          show Q_rmP Z w0 w1 w2 w3 w4 w5 wV kV i h0 n0 _ T33.heap _
          rw [e33]
          exact ⟨w3, (3 : Int32), rfl, N0, rfl, f34, f35, (hv37 ▸ f36), (hv39 ▸ f38), (⟨by decide, by decide⟩)⟩
        · refine own_by (T' := s₁) (g' := (mkF m 35 #[.val (.int i)] [])) (fun _ kt_ => XS.icmpYes X0.here hx rfl (pc0 := 28) (pc' := 35) rfl (hb hby own_d1_28) rfl (XT.ii_ne_t hc31) (by decide) (by decide) kt_) ?_
          refine own_by (T' := s₁) (g' := (mkF m 36 #[.val (.int i)] [(.int i)])) (fun _ kt_ => XS.iloadN X0.here hx rfl (hb hby own_d1_35) rfl kt_) ?_
          refine own_by (T' := s₁) (g' := (mkF m 37 #[.val (.int i)] [(.int (4 : Int32)), (.int i)])) (fun _ kt_ => XS.iconst X0.here hx rfl (hb hby own_d1_36) kt_) ?_
          by_cases hc41 : i = (4 : Int32)
          · refine own_by (T' := s₁) (g' := (mkF m 40 #[.val (.int i)] [])) (fun _ kt_ => XS.icmpNo X0.here hx rfl (hb hby own_d1_37) rfl (XT.ii_ne_f hc41) kt_) ?_
            have f42 := GS.2.2.2.2.2.2.2.2.2.2.2.2.2.2.2.2.2.2.2.2.1.ext O0.2
            obtain ⟨T43, X43, e43, st43⟩ := getS2 X0 hx hZ hown (host := "") (Or.inl (hw _ (List.mem_of_getElem? (i := 62) rfl))) Via.refl e0 f42 (g := (mkF m 40 #[.val (.int i)] [])) rfl (hb hby own_d1_40)
            refine own_by (T' := T43) (g' := (mkF m 43 #[.val (.int i)] [(.ref w4)])) st43 ?_
            have f44 := GS.2.2.2.2.2.2.2.2.2.2.2.2.2.2.2.2.2.2.2.2.2.1.ext O0.2
            have f45 := GS.2.2.2.2.2.2.2.2.2.2.2.2.2.2.2.2.2.2.2.2.2.2.1.ext O0.2
            have f46 := GS.2.2.2.2.2.2.2.2.2.2.2.2.2.2.2.2.2.2.2.2.2.2.2.1.ext O0.2
            have hv47 : ((.int (-1 : Int32)) : Value) = (.int (dqF (4 : Int32))) := rfl
            have f48 := GS.2.2.2.2.2.2.2.2.2.2.2.2.2.2.2.2.2.2.2.2.2.2.2.2.1.ext O0.2
            have hv49 : ((.int (1 : Int32)) : Value) = (.int (drF (4 : Int32))) := rfl
            obtain ⟨fs50, hr50, hrun50, hended50, hW50, hsame50⟩ := X43.leave (v := some (.ref w4)) (fun h => by rw [Bd.returns] at h; cases h)
            refine ⟨_, _, retOut X43 hx (t := (.object "com/example/redoubt/redoubt/core/Direction")) Bd.returns rfl (Or.inr (Or.inr (Or.inr (Or.inr ⟨rfl, rfl, rfl⟩)))) (hb hby own_d1_43) hr50, hrun50, hended50, _, _, rfl, ?_, ⟨_, rfl⟩, hW50, hsame50.mono (by decide) (by decide)⟩
            show Q_rmP Z w0 w1 w2 w3 w4 w5 wV kV i h0 n0 _ T43.heap _
            rw [e43]
            exact ⟨w4, (4 : Int32), rfl, N0, rfl, f44, f45, (hv47 ▸ f46), (hv49 ▸ f48), (⟨by decide, by decide⟩)⟩
          · refine own_by (T' := s₁) (g' := (mkF m 44 #[.val (.int i)] [])) (fun _ kt_ => XS.icmpYes X0.here hx rfl (pc0 := 37) (pc' := 44) rfl (hb hby own_d1_37) rfl (XT.ii_ne_t hc41) (by decide) (by decide) kt_) ?_
            have f51 := GS.2.2.2.2.2.2.2.2.2.2.2.2.2.2.2.2.2.2.2.2.2.2.2.2.2.1.ext O0.2
            obtain ⟨T52, X52, e52, st52⟩ := getS2 X0 hx hZ hown (host := "") (Or.inl (hw _ (List.mem_of_getElem? (i := 64) rfl))) Via.refl e0 f51 (g := (mkF m 44 #[.val (.int i)] [])) rfl (hb hby own_d1_44)
            refine own_by (T' := T52) (g' := (mkF m 47 #[.val (.int i)] [(.ref w5)])) st52 ?_
            have f53 := GS.2.2.2.2.2.2.2.2.2.2.2.2.2.2.2.2.2.2.2.2.2.2.2.2.2.2.1.ext O0.2
            have f54 := GS.2.2.2.2.2.2.2.2.2.2.2.2.2.2.2.2.2.2.2.2.2.2.2.2.2.2.2.1.ext O0.2
            have f55 := GS.2.2.2.2.2.2.2.2.2.2.2.2.2.2.2.2.2.2.2.2.2.2.2.2.2.2.2.2.1.ext O0.2
            have hv56 : ((.int (-1 : Int32)) : Value) = (.int (dqF (5 : Int32))) := rfl
            have f57 := GS.2.2.2.2.2.2.2.2.2.2.2.2.2.2.2.2.2.2.2.2.2.2.2.2.2.2.2.2.2.1.ext O0.2
            have hv58 : ((.int (0 : Int32)) : Value) = (.int (drF (5 : Int32))) := rfl
            obtain ⟨fs59, hr59, hrun59, hended59, hW59, hsame59⟩ := X52.leave (v := some (.ref w5)) (fun h => by rw [Bd.returns] at h; cases h)
            refine ⟨_, _, retOut X52 hx (t := (.object "com/example/redoubt/redoubt/core/Direction")) Bd.returns rfl (Or.inr (Or.inr (Or.inr (Or.inr ⟨rfl, rfl, rfl⟩)))) (hb hby own_d1_47) hr59, hrun59, hended59, _, _, rfl, ?_, ⟨_, rfl⟩, hW59, hsame59.mono (by decide) (by decide)⟩
            show Q_rmP Z w0 w1 w2 w3 w4 w5 wV kV i h0 n0 _ T52.heap _
            rw [e52]
            exact ⟨w5, (5 : Int32), rfl, N0, rfl, f53, f54, (hv56 ▸ f55), (hv58 ▸ f57), (⟨by decide, by decide⟩)⟩
theorem own_d5_0 : decode prog_6_method_1_code 0 = .ok (.getstatic 22, 3) := by decide +kernel
theorem own_d5_3 : decode prog_6_method_1_code 3 = .ok (.invokevirtual 26, 3) := by decide +kernel
theorem own_d5_6 : decode prog_6_method_1_code 6 = .ok (.checkcast 27, 3) := by decide +kernel
theorem own_d5_9 : decode prog_6_method_1_code 9 = .ok (.areturn, 1) := by decide +kernel
theorem own_ef_rmVal (m : MethodId)  : entryFrame m #[] 0 = mkF m 0 #[] [] := by first | (simp [entryFrame, mkF, argsToLocals, Value.category]; done) | rfl
def Q_rmVal (Z : State) (w0 : Addr) (w1 : Addr) (w2 : Addr) (w3 : Addr) (w4 : Addr) (w5 : Addr) (wV : Addr) (kV : ClassId) (h0 : Heap) (n0 : Nat) (vv_ : Option Value) (hh_ : Heap) (LL_ : List Loc) : Prop := ∃ b : Addr, vv_ = some (.ref b) ∧ Fr n0 LL_ ∧ Keep h0 hh_ [] ∧ h0.size ≤ b ∧ Arv Z hh_ b kV (.object "com/example/redoubt/redoubt/core/Direction") (6 : Int32) [(.ref w0), (.ref w1), (.ref w2), (.ref w3), (.ref w4), (.ref w5)] .null
set_option maxRecDepth 65536 in
set_option maxHeartbeats 40000000 in
theorem rmVal (l : Launch) (Z : State) (a0 : Array Value) (hw : ∀ d ∈ tables_1, d.before a0 Z = true) (ws : List Jvm.Cond) (w0 : Addr) (w1 : Addr) (w2 : Addr) (w3 : Addr) (w4 : Addr) (w5 : Addr) (wV : Addr) (kV : ClassId) (GS : Glob Z w0 w1 w2 w3 w4 w5 wV kV)  (h0 : Heap) (n0 : Nat) (Z0 : n0 ≤ h0.size) (O0 : Old Z n0 h0) :
    MetFree l (⟨"com/example/redoubt/redoubt/core/Direction", "values", "()[Lcom/example/redoubt/redoubt/core/Direction;"⟩ : MethodName) (head1 (Jvm.Cond.code (⟨"com/example/redoubt/redoubt/core/Direction", "values", "()[Lcom/example/redoubt/redoubt/core/Direction;"⟩ : MethodName) prog_6_method_1_code 0 (some (.array (.object "com/example/redoubt/redoubt/core/Direction"))) :: ws) ({ frames := 1, cells := 1, slots := 6, locals := 14 } : Room)) (fun aa_ UU_ => aa_ = #[] ∧ Z.Warmed39 UU_.vm ∧ UU_.heap = h0) (fun _ _ _ _ _ => True) (fun _ UU_ oo_ UV_ => ∃ vv_ LL_, oo_ = .returned vv_ ∧ Q_rmVal Z w0 w1 w2 w3 w4 w5 wV kV h0 n0 vv_ UV_.heap LL_ ∧ FrameEnd UU_ oo_ UV_ LL_ ({ frames := 1, cells := 1, slots := 6, locals := 14 } : Room).cells ({ frames := 1, cells := 1, slots := 6, locals := 14 } : Room).slots) := by
  refine MetFree.of_bodySF (plainFor_of_name own_pn_com_example_redoubt_redoubt_core_Direction) hisR ?_
  intro p e s m args below meth c s₁ Bd hml0 hP hK
  obtain ⟨rfl, hZ, hh⟩ := hP
  have hx := Bd.exec
  have hby := Bd.bytes
  have hml : c.maxLocals = 0 := hml0
  have hown : s.vm.findClass "com/example/redoubt/redoubt/core/Direction" = some m.cls := findClass_of_methodNamed Bd.named
  have hnm := (name_of_methodNamed Bd.named Bd.method).1
  have X0 : Stand p l e ({ frames := 1, cells := 1, slots := 6, locals := 14 } : Room) s m #[] below meth c s₁ [] 0 0 := Stand.of_body Bd
  have e0 : s₁.heap = h0 := by rw [← hh, Bd.state]; rfl
  have N0 := Fr.nil n0
  have hn0 : Z.heap.size = n0 := O0.1
  have KT0 : Keep h0 h0 [] := Keep.refl _ _
  refine own_enter (Φ := fun oo_ UV_ => ∃ vv_ LL_, oo_ = .returned vv_ ∧ Q_rmVal Z w0 w1 w2 w3 w4 w5 wV kV h0 n0 vv_ UV_.heap LL_ ∧ FrameEnd s oo_ UV_ LL_ ({ frames := 1, cells := 1, slots := 6, locals := 14 } : Room).cells ({ frames := 1, cells := 1, slots := 6, locals := 14 } : Room).slots) (own_ef_rmVal m ) ?_
  have f1 := GS.2.2.2.2.2.2.2.2.2.2.2.2.2.2.2.2.2.2.2.2.2.2.2.2.2.2.2.2.2.2.1.ext O0.2
  obtain ⟨T2, X2, e2, st2⟩ := getS2 X0 hx hZ hown (host := "") (Or.inl (hw _ (List.mem_of_getElem? (i := 31) rfl))) Via.refl e0 f1 (g := (mkF m 0 #[] [])) rfl (hb hby own_d5_0)
  refine own_by (T' := T2) (g' := (mkF m 3 #[] [(.ref wV)])) st2 ?_
  have f4 := GS.2.2.2.2.2.2.2.2.2.2.2.2.2.2.2.2.2.2.2.2.2.2.2.2.2.2.2.2.2.2.2.2.ext O0.2
  obtain ⟨cl3, Ar3, q3, S3, M3, H3, G3⟩ := id f4
  have f5 := GS.2.2.2.2.2.2.2.2.2.2.2.2.2.2.2.2.2.2.2.2.2.2.2.2.2.2.2.2.2.2.2.1.ext O0.2
  obtain ⟨T3, h3, X3, e3, E3, A3, B3, st3⟩ := cloneA X2 hx hZ hown (hw _ (List.mem_of_getElem? (i := 33) rfl)) (hw _ (List.mem_of_getElem? (i := 34) rfl)) (hw _ (List.mem_of_getElem? (i := 38) rfl)) (hw _ (List.mem_of_getElem? (i := 36) rfl)) (hw _ (List.mem_of_getElem? (i := 37) rfl)) (hw _ (List.mem_of_getElem? (i := 39) rfl)) e2 Ar3 f5 (fitC_of Ar3 fun i hi v hv => by rw [H3 i hi] at hv; cases hv; exact G3 i hi) (g := (mkF m 3 #[] [(.ref wV)])) rfl (by rw [hml]; rfl) rfl (hb hby own_d5_3) (by decide) (W := 0) (cap := 6) (by show 2 * 0 + _ ≤ _; exact Nat.le_of_eq rfl) (by decide) (by rw [S3]; decide) (by decide) (by decide)
  obtain ⟨b3, g3⟩ : ∃ z, z = h0.size := ⟨_, rfl⟩
  rw [← g3] at A3 B3 st3
  have K6 : Keep h0 h3 [] := own_kext E3
  have zzK6 : h0.size ≤ h3.size := K6.1
  have oo7 : Old Z n0 h3 := O0.keep K6 all0
  have kt8 : Keep h0 h3 [] := KT0.trans K6 all0
  have lab3 := A3.lt
  have f9 : Arv Z h3 b3 kV (.object "com/example/redoubt/redoubt/core/Direction") (6 : Int32) [(.ref w0), (.ref w1), (.ref w2), (.ref w3), (.ref w4), (.ref w5)] .null := ⟨_, A3, q3, S3, M3, H3, G3⟩
  refine own_by (T' := T3) (g' := (mkF m 6 #[] [(.ref b3)])) st3 ?_
  obtain ⟨T10, X10, e10, st10⟩ := castY X3 hx hZ hown (hw _ (List.mem_of_getElem? (i := 46) rfl)) e3 (Ins.self B3) (g := (mkF m 6 #[] [(.ref b3)])) rfl rfl (hb hby own_d5_6)
  refine own_by (T' := T10) (g' := (mkF m 9 #[] [(.ref b3)])) st10 ?_
  obtain ⟨fs11, hr11, hrun11, hended11, hW11, hsame11⟩ := X10.leave (v := some (.ref b3)) (fun h => by rw [Bd.returns] at h; cases h)
  refine ⟨_, _, retOut X10 hx (t := (.array (.object "com/example/redoubt/redoubt/core/Direction"))) Bd.returns rfl (Or.inr (Or.inr (Or.inr (Or.inr ⟨rfl, rfl, rfl⟩)))) (hb hby own_d5_9) hr11, hrun11, hended11, _, _, rfl, ?_, ⟨_, rfl⟩, hW11, hsame11.mono (by decide) (by decide)⟩
  show Q_rmVal Z w0 w1 w2 w3 w4 w5 wV kV h0 n0 _ T10.heap _
  rw [e10]
  exact ⟨b3, rfl, N0, kt8, (by omega), f9⟩
theorem own_pd_0 : parseMethodDescriptor "()[Lcom/example/redoubt/redoubt/core/Direction;" = some ⟨[], some (.array (.object "com/example/redoubt/redoubt/core/Direction"))⟩ := by decide +kernel
theorem own_pd_1 : parseMethodDescriptor "()I" = some ⟨[], some .int⟩ := by decide +kernel
theorem own_pd_2 : parseMethodDescriptor "(II)I" = some ⟨[.int, .int], some .int⟩ := by decide +kernel
theorem own_d4_0 : decode prog_6_method_7_code 0 = .ok (.invokestatic 52, 3) := by decide +kernel
theorem own_d4_3 : decode prog_6_method_7_code 3 = .ok (.astore_n 2, 1) := by decide +kernel
theorem own_d4_4 : decode prog_6_method_7_code 4 = .ok (.aload_n 2, 1) := by decide +kernel
theorem own_d4_5 : decode prog_6_method_7_code 5 = .ok (.aload_n 0, 1) := by decide +kernel
theorem own_d4_6 : decode prog_6_method_7_code 6 = .ok (.invokevirtual 56, 3) := by decide +kernel
theorem own_d4_9 : decode prog_6_method_7_code 9 = .ok (.iload_n 1, 1) := by decide +kernel
theorem own_d4_10 : decode prog_6_method_7_code 10 = .ok (.iadd, 1) := by decide +kernel
theorem own_d4_11 : decode prog_6_method_7_code 11 = .ok (.aload_n 2, 1) := by decide +kernel
theorem own_d4_12 : decode prog_6_method_7_code 12 = .ok (.arraylength, 1) := by decide +kernel
theorem own_d4_13 : decode prog_6_method_7_code 13 = .ok (.invokestatic 60, 3) := by decide +kernel
theorem own_d4_16 : decode prog_6_method_7_code 16 = .ok (.aaload, 1) := by decide +kernel
theorem own_d4_17 : decode prog_6_method_7_code 17 = .ok (.areturn, 1) := by decide +kernel
theorem own_ef_rmCw (m : MethodId) (x0 : Addr) (x1 : Int32) : entryFrame m #[(.ref x0), (.int x1)] 3 = mkF m 0 #[.val (.ref x0), .val (.int x1), .unset] [] := by first | (simp [entryFrame, mkF, argsToLocals, Value.category]; done) | rfl
def Q_rmCw (Z : State) (w0 : Addr) (w1 : Addr) (w2 : Addr) (w3 : Addr) (w4 : Addr) (w5 : Addr) (wV : Addr) (kV : ClassId) (a : Addr) (od : Int32) (sx : Int32) (h0 : Heap) (n0 : Nat) (vv_ : Option Value) (hh_ : Heap) (LL_ : List Loc) : Prop := ∃ t : Addr, vv_ = some (.ref t) ∧ Fr n0 LL_ ∧ Keep h0 hh_ [] ∧ Exa Z hh_ t "com/example/redoubt/redoubt/core/Direction" ∧ Fld Z hh_ t "com/example/redoubt/redoubt/core/Direction" "dq" "I" (.int (dqF (fmF (od + sx) (6 : Int32)))) ∧ Fld Z hh_ t "com/example/redoubt/redoubt/core/Direction" "dr" "I" (.int (drF (fmF (od + sx) (6 : Int32))))
set_option maxRecDepth 65536 in
set_option maxHeartbeats 40000000 in
theorem rmCw (l : Launch) (Z : State) (a0 : Array Value) (hw : ∀ d ∈ tables_1, d.before a0 Z = true) (ws : List Jvm.Cond) (w0 : Addr) (w1 : Addr) (w2 : Addr) (w3 : Addr) (w4 : Addr) (w5 : Addr) (wV : Addr) (kV : ClassId) (GS : Glob Z w0 w1 w2 w3 w4 w5 wV kV) (a : Addr) (od : Int32) (sx : Int32) (h0 : Heap) (n0 : Nat) (Z0 : n0 ≤ h0.size) (O0 : Old Z n0 h0) (Ea : Exa Z h0 a "com/example/redoubt/redoubt/core/Direction") (Fo : Fld Z h0 a "java/lang/Enum" "ordinal" "I" (.int od)) :
    MetFree l (⟨"com/example/redoubt/redoubt/core/Direction", "clockwise", "(I)Lcom/example/redoubt/redoubt/core/Direction;"⟩ : MethodName) (head1 (Jvm.Cond.code (⟨"com/example/redoubt/redoubt/core/Direction", "clockwise", "(I)Lcom/example/redoubt/redoubt/core/Direction;"⟩ : MethodName) prog_6_method_7_code 3 (some (.object "com/example/redoubt/redoubt/core/Direction")) :: ws) ({ frames := 2, cells := 1, slots := 6, locals := 25 } : Room)) (fun aa_ UU_ => aa_ = #[(.ref a), (.int sx)] ∧ Z.Warmed39 UU_.vm ∧ UU_.heap = h0) (fun _ _ _ _ _ => True) (fun _ UU_ oo_ UV_ => ∃ vv_ LL_, oo_ = .returned vv_ ∧ Q_rmCw Z w0 w1 w2 w3 w4 w5 wV kV a od sx h0 n0 vv_ UV_.heap LL_ ∧ FrameEnd UU_ oo_ UV_ LL_ ({ frames := 2, cells := 1, slots := 6, locals := 25 } : Room).cells ({ frames := 2, cells := 1, slots := 6, locals := 25 } : Room).slots) := by
  refine MetFree.of_bodySF (plainFor_of_name own_pn_com_example_redoubt_redoubt_core_Direction) hisR ?_
  intro p e s m args below meth c s₁ Bd hml0 hP hK
  obtain ⟨rfl, hZ, hh⟩ := hP
  have hx := Bd.exec
  have hby := Bd.bytes
  have hml : c.maxLocals = 3 := hml0
  have hown : s.vm.findClass "com/example/redoubt/redoubt/core/Direction" = some m.cls := findClass_of_methodNamed Bd.named
  have hnm := (name_of_methodNamed Bd.named Bd.method).1
  have X0 : Stand p l e ({ frames := 2, cells := 1, slots := 6, locals := 25 } : Room) s m #[(.ref a), (.int sx)] below meth c s₁ [] 0 0 := Stand.of_body Bd
  have e0 : s₁.heap = h0 := by rw [← hh, Bd.state]; rfl
  have N0 := Fr.nil n0
  have hn0 : Z.heap.size = n0 := O0.1
  have KT0 : Keep h0 h0 [] := Keep.refl _ _
  refine own_enter (Φ := fun oo_ UV_ => ∃ vv_ LL_, oo_ = .returned vv_ ∧ Q_rmCw Z w0 w1 w2 w3 w4 w5 wV kV a od sx h0 n0 vv_ UV_.heap LL_ ∧ FrameEnd s oo_ UV_ LL_ ({ frames := 2, cells := 1, slots := 6, locals := 25 } : Room).cells ({ frames := 2, cells := 1, slots := 6, locals := 25 } : Room).slots) (own_ef_rmCw m a sx) ?_
  obtain ⟨_, _, ⟨T1, L1, k1, n1⟩, -, X1, ⟨Lc1, hQ1, l1, y1, z1⟩, st1⟩ := Jvm.LawKit.callS X0 hx (y := (⟨"com/example/redoubt/redoubt/core/Direction", "values", "()[Lcom/example/redoubt/redoubt/core/Direction;"⟩ : MethodName)) hown (mvT hZ (hw _ (List.mem_of_getElem? (i := 28) rfl))) (mvT hZ (hw _ (List.mem_of_getElem? (i := 29) rfl))) (mvT hZ (hw _ (List.mem_of_getElem? (i := 6) rfl))) (mvT hZ (hw _ (List.mem_of_getElem? (i := 30) rfl))) (by decide) (backOf (W := 0) (rmVal l Z a0 hw [] w0 w1 w2 w3 w4 w5 wV kV GS  h0 n0 (by omega) O0 ) hZ (hw _ (List.mem_of_getElem? (i := 30) rfl)) (hw _ (List.mem_of_getElem? (i := 6) rfl)) (by decide) (by decide)) (g := (mkF m 0 #[.val (.ref a), .val (.int sx), .unset] [])) rfl (by rw [hml]; rfl) (argsL := []) (rest := []) (lenOf own_pd_0 rfl) rfl (by show 2 * 0 + _ ≤ _; exact Nat.le_of_eq rfl) (hb hby own_d4_0) (fun _ _ => ⟨rfl, e0, (by decide : 0 + 1 ≤ _), (by decide : 0 + 6 ≤ _)⟩)
  dsimp only [Pt.U, Pt.locs, Pt.cells, Pt.slots] at X1 l1 y1 z1 st1 hQ1
  subst l1 y1 z1
  obtain ⟨b_2, rfl, N1q, K1, p1_0, p1_1⟩ := hQ1
  have N3 := Fr.app N0 N1q
  have gb_2 : h0.size ≤ b_2 := p1_0
  have zzK1 : h0.size ≤ T1.heap.size := K1.1
  have oo4 : Old Z n0 T1.heap := O0.keep K1 all0
  have kt5 : Keep h0 T1.heap [] := KT0.trans K1 all0
  refine own_by (T' := T1) (g' := (mkF m 3 #[.val (.ref a), .val (.int sx), .unset] [(.ref b_2)])) st1 ?_
  refine own_by (T' := T1) (g' := (mkF m 4 #[.val (.ref a), .val (.int sx), .val (.ref b_2)] [])) (fun _ kt_ => XS.astoreN X1.here hx rfl (hb hby own_d4_3) rfl rfl (l' := #[.val (.ref a), .val (.int sx), .val (.ref b_2)]) rfl kt_) ?_
  refine own_by (T' := T1) (g' := (mkF m 5 #[.val (.ref a), .val (.int sx), .val (.ref b_2)] [(.ref b_2)])) (fun _ kt_ => XS.aloadN X1.here hx rfl (hb hby own_d4_4) rfl rfl kt_) ?_
  refine own_by (T' := T1) (g' := (mkF m 6 #[.val (.ref a), .val (.int sx), .val (.ref b_2)] [(.ref a), (.ref b_2)])) (fun _ kt_ => XS.aloadN X1.here hx rfl (hb hby own_d4_5) rfl rfl kt_) ?_
  have f6 : Fld Z T1.heap a "java/lang/Enum" "ordinal" "I" (.int od) := (Fo.keep K1 nin0)
  have f8 : Exa Z T1.heap a "com/example/redoubt/redoubt/core/Direction" := (Ea.keep K1)
  obtain ⟨cq7, kq7, q7a, q7b, q7c⟩ := isOf hZ rfl f8
  obtain ⟨_, _, ⟨T7, L7, k7, n7⟩, -, X7, ⟨Lc7, hQ7, l7, y7, z7⟩, st7⟩ := X1.virtualBackUp hx (x := (⟨"com/example/redoubt/redoubt/core/Direction", "ordinal", "()I"⟩ : MethodName)) (y := (⟨"java/lang/Enum", "ordinal", "()I"⟩ : MethodName)) hown (mvT hZ (hw _ (List.mem_of_getElem? (i := 48) rfl))) (mvT hZ (hw _ (List.mem_of_getElem? (i := 49) rfl))) (mvT hZ (hw _ (List.mem_of_getElem? (i := 50) rfl))) (by decide) (mvT hZ (hw _ (List.mem_of_getElem? (i := 52) rfl))) (mvT hZ (hw _ (List.mem_of_getElem? (i := 51) rfl))) (backOf (W := 1) (rmOrd l Z a0 hw [] w0 w1 w2 w3 w4 w5 wV kV GS a od T1.heap n0 (by omega) oo4 f6) hZ (hw _ (List.mem_of_getElem? (i := 54) rfl)) (hw _ (List.mem_of_getElem? (i := 53) rfl)) (by decide) (by decide)) q7a q7c (g := (mkF m 6 #[.val (.ref a), .val (.int sx), .val (.ref b_2)] [(.ref a), (.ref b_2)])) rfl (by rw [hml]; rfl) (Steps.refl _) (argsL := []) (rest := [(.ref b_2)]) (lenOf own_pd_1 rfl) rfl (by show 2 * 0 + _ ≤ _; exact Nat.le_of_eq rfl) (hb hby own_d4_6) (fun _ _ => ⟨rfl, rfl, (by decide : 1 + 0 ≤ _), (by decide : 6 + 0 ≤ _)⟩)
  dsimp only [Pt.U, Pt.locs, Pt.cells, Pt.slots] at X7 l7 y7 z7 st7 hQ7
  subst l7 y7 z7
  obtain ⟨rfl, N7q, e7⟩ := hQ7
  have N9 := Fr.app N3 N7q
  refine own_by (T' := T7) (g' := (mkF m 9 #[.val (.ref a), .val (.int sx), .val (.ref b_2)] [(.int od), (.ref b_2)])) (fun _ kt_ => st7.trans kt_) ?_
  refine own_by (T' := T7) (g' := (mkF m 10 #[.val (.ref a), .val (.int sx), .val (.ref b_2)] [(.int sx), (.int od), (.ref b_2)])) (fun _ kt_ => XS.iloadN X7.here hx rfl (hb hby own_d4_9) rfl kt_) ?_
  refine own_by (T' := T7) (g' := (mkF m 11 #[.val (.ref a), .val (.int sx), .val (.ref b_2)] [(.int (od + sx)), (.ref b_2)])) (fun _ kt_ => XS.iadd X7.here hx rfl (hb hby own_d4_10) rfl kt_) ?_
  refine own_by (T' := T7) (g' := (mkF m 12 #[.val (.ref a), .val (.int sx), .val (.ref b_2)] [(.ref b_2), (.int (od + sx)), (.ref b_2)])) (fun _ kt_ => XS.aloadN X7.here hx rfl (hb hby own_d4_11) rfl rfl kt_) ?_
  obtain ⟨cl10, Ar10, q10, S10, M10, H10, G10⟩ := id p1_1
  refine own_by (T' := T7) (g' := (mkF m 13 #[.val (.ref a), .val (.int sx), .val (.ref b_2)] [(.int (6 : Int32)), (.int (od + sx)), (.ref b_2)])) (fun _ kt_ => X7.arraylength hx (by rw [e7]; exact Ar10.1) (State.isArrayOf_alike hZ.alike Ar10.2.1) (g := (mkF m 12 #[.val (.ref a), .val (.int sx), .val (.ref b_2)] [(.ref b_2), (.int (od + sx)), (.ref b_2)])) rfl rfl (hb hby own_d4_12) _ (by rw [len_of S10 M10]; exact kt_)) ?_
  obtain ⟨_, _, ⟨T11, L11, k11, n11⟩, -, X11, ⟨Lc11, hQ11, l11, y11, z11⟩, st11⟩ := Jvm.LawKit.callS X7 hx (y := (⟨"java/lang/Math", "floorMod", "(II)I"⟩ : MethodName)) hown (mvT hZ (hw _ (List.mem_of_getElem? (i := 57) rfl))) (mvT hZ (hw _ (List.mem_of_getElem? (i := 58) rfl))) (mvT hZ (hw _ (List.mem_of_getElem? (i := 59) rfl))) (mvT hZ (hw _ (List.mem_of_getElem? (i := 60) rfl))) (by decide) (backOf (W := 1) (rmFm l Z a0 hw [] w0 w1 w2 w3 w4 w5 wV kV GS (od + sx) (6 : Int32) T1.heap n0 (by omega) oo4 (by decide)) hZ (hw _ (List.mem_of_getElem? (i := 60) rfl)) (hw _ (List.mem_of_getElem? (i := 59) rfl)) (by decide) (by decide)) (g := (mkF m 13 #[.val (.ref a), .val (.int sx), .val (.ref b_2)] [(.int (6 : Int32)), (.int (od + sx)), (.ref b_2)])) rfl (by rw [hml]; rfl) (argsL := [(.int (od + sx)), (.int (6 : Int32))]) (rest := [(.ref b_2)]) (lenOf own_pd_2 rfl) rfl (by show 2 * 0 + _ ≤ _; exact Nat.le_of_eq rfl) (hb hby own_d4_13) (fun _ _ => ⟨rfl, e7, (by decide : 1 + 0 ≤ _), (by decide : 6 + 0 ≤ _)⟩)
  dsimp only [Pt.U, Pt.locs, Pt.cells, Pt.slots] at X11 l11 y11 z11 st11 hQ11
  subst l11 y11 z11
  obtain ⟨rfl, N11q, e11⟩ := hQ11
  have N12 := Fr.app N9 N11q
  refine own_by (T' := T11) (g' := (mkF m 16 #[.val (.ref a), .val (.int sx), .val (.ref b_2)] [(.int (fmF (od + sx) (6 : Int32))), (.ref b_2)])) st11 ?_
  obtain ⟨t2, ht2, Et2, Fq2, Fr2⟩ := own_dirs w0 w1 w2 w3 w4 w5 wV kV GS (fmF (od + sx) (6 : Int32)) (own_fmb _)
  obtain ⟨cl13, Ar13, q13, S13, M13, H13, G13⟩ := id p1_1
  have hin13 : ¬ ((fmF (od + sx) (6 : Int32)) < 0 ∨ cl13.slots.size ≤ ((fmF (od + sx) (6 : Int32))).toNatClampNeg) := inb_of S13 (own_inb6 _ (own_fmb _))
  have hat13 : cl13.slots[((fmF (od + sx) (6 : Int32))).toNatClampNeg]? = some (.ref t2) := H13.at hin13 ht2
  refine own_by (T' := T11) (g' := (mkF m 17 #[.val (.ref a), .val (.int sx), .val (.ref b_2)] [(.ref t2)])) (fun _ kt_ => X11.aaload hx (j := (fmF (od + sx) (6 : Int32))) (v := (.ref t2)) (by rw [e11]; exact Ar13.1) (State.isArrayOf_alike hZ.alike Ar13.2.1) rfl Ar13.2.2 hin13 hat13 (g := (mkF m 16 #[.val (.ref a), .val (.int sx), .val (.ref b_2)] [(.int (fmF (od + sx) (6 : Int32))), (.ref b_2)])) rfl rfl (hb hby own_d4_16) _ kt_) ?_
  have f14 := Et2.ext oo4.2
  have f15 := Fq2.ext oo4.2
  have f16 := Fr2.ext oo4.2
  obtain ⟨fs17, hr17, hrun17, hended17, hW17, hsame17⟩ := X11.leave (v := some (.ref t2)) (fun h => by rw [Bd.returns] at h; cases h)
  refine ⟨_, _, retOut X11 hx (t := (.object "com/example/redoubt/redoubt/core/Direction")) Bd.returns rfl (Or.inr (Or.inr (Or.inr (Or.inr ⟨rfl, rfl, rfl⟩)))) (hb hby own_d4_17) hr17, hrun17, hended17, _, _, rfl, ?_, ⟨_, rfl⟩, hW17, hsame17.mono (by decide) (by decide)⟩
  show Q_rmCw Z w0 w1 w2 w3 w4 w5 wV kV a od sx h0 n0 _ T11.heap _
  rw [e11]
  exact ⟨t2, rfl, N12, kt5, f14, f15, f16⟩
theorem own_pd_3 : parseMethodDescriptor "(I)Lcom/example/redoubt/redoubt/core/Direction;" = some ⟨[.int], some (.object "com/example/redoubt/redoubt/core/Direction")⟩ := by decide +kernel
theorem own_ef_rm0 (m : MethodId) (x0 : Int32) (x1 : Int32) : entryFrame m #[(.int x0), (.int x1)] maxLocals = mkF m 0 #[.val (.int x0), .val (.int x1), .unset, .unset, .unset, .unset, .unset, .unset, .unset, .unset] [] := by first | (simp [entryFrame, mkF, argsToLocals, Value.category, maxLocals]; done) | rfl
def Q_rm0 (Z : State) (w0 : Addr) (w1 : Addr) (w2 : Addr) (w3 : Addr) (w4 : Addr) (w5 : Addr) (wV : Addr) (kV : ClassId) (p0 : Int32) (p1 : Int32) (h0 : Heap) (n0 : Nat) (vv_ : Option Value) (hh_ : Heap) (LL_ : List Loc) : Prop := vv_ = some (.int (1 : Int32)) ∧ Fr n0 LL_
set_option maxRecDepth 65536 in
set_option maxHeartbeats 40000000 in
theorem rm0 (l : Launch) (Z : State) (a0 : Array Value) (hw : ∀ d ∈ tables_1, d.before a0 Z = true) (ws : List Jvm.Cond) (w0 : Addr) (w1 : Addr) (w2 : Addr) (w3 : Addr) (w4 : Addr) (w5 : Addr) (wV : Addr) (kV : ClassId) (GS : Glob Z w0 w1 w2 w3 w4 w5 wV kV) (p0 : Int32) (p1 : Int32) (h0 : Heap) (n0 : Nat) (Z0 : n0 ≤ h0.size) (O0 : Old Z n0 h0) :
    MetFree l x (head1 (Jvm.Cond.code x code maxLocals ret :: ws) room_1) (fun aa_ UU_ => aa_ = #[(.int p0), (.int p1)] ∧ Z.Warmed39 UU_.vm ∧ UU_.heap = h0) (fun _ _ _ _ _ => True) (fun _ UU_ oo_ UV_ => ∃ vv_ LL_, oo_ = .returned vv_ ∧ Q_rm0 Z w0 w1 w2 w3 w4 w5 wV kV p0 p1 h0 n0 vv_ UV_.heap LL_ ∧ FrameEnd UU_ oo_ UV_ LL_ 1 6) := by
  refine MetFree.of_bodySF (plainFor_of_name own_pn_com_example_redoubt_redoubt_core_DirectionClockwisePinLaw) hisR ?_
  intro p e s m args below meth c s₁ Bd hml0 hP hK
  obtain ⟨rfl, hZ, hh⟩ := hP
  have hx := Bd.exec
  have hby := Bd.bytes
  have hml : c.maxLocals = 10 := hml0
  have hown : s.vm.findClass "com/example/redoubt/redoubt/core/DirectionClockwisePinLaw" = some m.cls := findClass_of_methodNamed Bd.named
  have hnm := (name_of_methodNamed Bd.named Bd.method).1
  have X0 : Stand p l e room_1 s m #[(.int p0), (.int p1)] below meth c s₁ [] 0 0 := Stand.of_body Bd
  have e0 : s₁.heap = h0 := by rw [← hh, Bd.state]; rfl
  have N0 := Fr.nil n0
  have hn0 : Z.heap.size = n0 := O0.1
  have KT0 : Keep h0 h0 [] := Keep.refl _ _
  refine own_enter (Φ := fun oo_ UV_ => ∃ vv_ LL_, oo_ = .returned vv_ ∧ Q_rm0 Z w0 w1 w2 w3 w4 w5 wV kV p0 p1 h0 n0 vv_ UV_.heap LL_ ∧ FrameEnd s oo_ UV_ LL_ 1 6) (own_ef_rm0 m p0 p1) ?_
  refine own_by (T' := s₁) (g' := (mkF m 1 #[.val (.int p0), .val (.int p1), .unset, .unset, .unset, .unset, .unset, .unset, .unset, .unset] [(.int p0)])) (fun _ kt_ => XS.iloadN X0.here hx rfl (hb hby at_0) rfl kt_) ?_
  refine own_by (T' := s₁) (g' := (mkF m 3 #[.val (.int p0), .val (.int p1), .unset, .unset, .unset, .unset, .unset, .unset, .unset, .unset] [(.int (2147483647 : Int32)), (.int p0)])) (fun _ kt_ => X0.ldcInt hx hown (mvT hZ (hw _ (List.mem_of_getElem? (i := 0) rfl))) (g := (mkF m 1 #[.val (.int p0), .val (.int p1), .unset, .unset, .unset, .unset, .unset, .unset, .unset, .unset] [(.int p0)])) rfl (hb hby at_1) _ kt_) ?_
  refine own_by (T' := s₁) (g' := (mkF m 4 #[.val (.int p0), .val (.int p1), .unset, .unset, .unset, .unset, .unset, .unset, .unset, .unset] [(.int (p0 &&& (2147483647 : Int32)))])) (fun _ kt_ => XS.iand X0.here hx rfl (hb hby at_3) rfl kt_) ?_
  refine own_by (T' := s₁) (g' := (mkF m 6 #[.val (.int p0), .val (.int p1), .unset, .unset, .unset, .unset, .unset, .unset, .unset, .unset] [(.int (6 : Int32)), (.int (p0 &&& (2147483647 : Int32)))])) (fun _ kt_ => XS.bipush X0.here hx rfl (hb hby at_4) kt_) ?_
  refine own_by (T' := s₁) (g' := (mkF m 7 #[.val (.int p0), .val (.int p1), .unset, .unset, .unset, .unset, .unset, .unset, .unset, .unset] [(.int ((p0 &&& (2147483647 : Int32)) % (6 : Int32)))])) (fun _ kt_ => iremM X0 hx rfl (hb hby at_6) rfl (by decide) kt_) ?_
  obtain ⟨_, _, ⟨T2, L2, k2, n2⟩, -, X2, ⟨Lc2, hQ2, l2, y2, z2⟩, st2⟩ := Jvm.LawKit.callS X0 hx (y := (⟨"com/example/redoubt/redoubt/core/DirectionClockwisePinLaw", "pick", "(I)Lcom/example/redoubt/redoubt/core/Direction;"⟩ : MethodName)) hown (mvT hZ (hw _ (List.mem_of_getElem? (i := 1) rfl))) (mvT hZ (hw _ (List.mem_of_getElem? (i := 2) rfl))) (mvT hZ (hw _ (List.mem_of_getElem? (i := 3) rfl))) (mvT hZ (hw _ (List.mem_of_getElem? (i := 4) rfl))) (by decide) (backOf (W := 0) (rmP l Z a0 hw [] w0 w1 w2 w3 w4 w5 wV kV GS ((p0 &&& (2147483647 : Int32)) % (6 : Int32)) h0 n0 (by omega) O0 ) hZ (hw _ (List.mem_of_getElem? (i := 4) rfl)) (hw _ (List.mem_of_getElem? (i := 3) rfl)) (by decide) (by decide)) (g := (mkF m 7 #[.val (.int p0), .val (.int p1), .unset, .unset, .unset, .unset, .unset, .unset, .unset, .unset] [(.int ((p0 &&& (2147483647 : Int32)) % (6 : Int32)))])) rfl (by rw [hml]; rfl) (argsL := [(.int ((p0 &&& (2147483647 : Int32)) % (6 : Int32)))]) (rest := []) (lenOf own_pd_3 rfl) rfl (by show 2 * 0 + _ ≤ _; exact Nat.le_of_eq rfl) (hb hby at_7) (fun _ _ => ⟨rfl, e0, (by decide : 0 + 0 ≤ _), (by decide : 0 + 0 ≤ _)⟩)
  dsimp only [Pt.U, Pt.locs, Pt.cells, Pt.slots] at X2 l2 y2 z2 st2 hQ2
  subst l2 y2 z2
  obtain ⟨t_3, od_4, rfl, N2q, e2, p2_0, p2_1, p2_2, p2_3, p2_4⟩ := hQ2
  have N5 := Fr.app N0 N2q
  rw [e2] at p2_0 p2_1 p2_2 p2_3
  refine own_by (T' := T2) (g' := (mkF m 10 #[.val (.int p0), .val (.int p1), .unset, .unset, .unset, .unset, .unset, .unset, .unset, .unset] [(.ref t_3)])) st2 ?_
  refine own_by (T' := T2) (g' := (mkF m 11 #[.val (.int p0), .val (.int p1), .val (.ref t_3), .unset, .unset, .unset, .unset, .unset, .unset, .unset] [])) (fun _ kt_ => XS.astoreN X2.here hx rfl (hb hby at_10) rfl rfl (l' := #[.val (.int p0), .val (.int p1), .val (.ref t_3), .unset, .unset, .unset, .unset, .unset, .unset, .unset]) rfl kt_) ?_
  refine own_by (T' := T2) (g' := (mkF m 12 #[.val (.int p0), .val (.int p1), .val (.ref t_3), .unset, .unset, .unset, .unset, .unset, .unset, .unset] [(.int p1)])) (fun _ kt_ => XS.iloadN X2.here hx rfl (hb hby at_11) rfl kt_) ?_
  refine own_by (T' := T2) (g' := (mkF m 13 #[.val (.int p0), .val (.int p1), .val (.ref t_3), .val (.int p1), .unset, .unset, .unset, .unset, .unset, .unset] [])) (fun _ kt_ => XS.istoreN X2.here hx rfl (hb hby at_12) rfl (l' := #[.val (.int p0), .val (.int p1), .val (.ref t_3), .val (.int p1), .unset, .unset, .unset, .unset, .unset, .unset]) rfl kt_) ?_
  have J6 : ∀ (T6 : State) (lo6 : List Loc) (X6 : Stand p l e room_1 s m #[(.int p0), (.int p1)] below meth c T6 lo6 0 0) (e6 : T6.heap = h0) (N6 : Fr n0 lo6) (sv : Int32), sv.toInt ≤ 2147483642 → OGoal p e below (fun oo_ UV_ => ∃ vv_ LL_, oo_ = .returned vv_ ∧ Q_rm0 Z w0 w1 w2 w3 w4 w5 wV kV p0 p1 h0 n0 vv_ UV_.heap LL_ ∧ FrameEnd s oo_ UV_ LL_ 1 6) T6 (mkF m 24 #[.val (.int p0), .val (.int p1), .val (.ref t_3), .val (.int sv), .unset, .unset, .unset, .unset, .unset, .unset] []) := by
    intro T6 lo6 X6 e6 N6 sv  hj7
    refine own_by (T' := T6) (g' := (mkF m 25 #[.val (.int p0), .val (.int p1), .val (.ref t_3), .val (.int sv), .unset, .unset, .unset, .unset, .unset, .unset] [(.int sv)])) (fun _ kt_ => XS.iloadN X6.here hx rfl (hb hby at_24) rfl kt_) ?_
    refine own_by (T' := T6) (g' := (mkF m 27 #[.val (.int p0), .val (.int p1), .val (.ref t_3), .val (.int sv), .unset, .unset, .unset, .unset, .unset, .unset] [(.int (6 : Int32)), (.int sv)])) (fun _ kt_ => XS.bipush X6.here hx rfl (hb hby at_25) kt_) ?_
    refine own_by (T' := T6) (g' := (mkF m 28 #[.val (.int p0), .val (.int p1), .val (.ref t_3), .val (.int sv), .unset, .unset, .unset, .unset, .unset, .unset] [(.int (sv % (6 : Int32)))])) (fun _ kt_ => iremM X6 hx rfl (hb hby at_27) rfl (by decide) kt_) ?_
    refine own_by (T' := T6) (g' := (mkF m 30 #[.val (.int p0), .val (.int p1), .val (.ref t_3), .val (.int sv), .val (.int (sv % (6 : Int32))), .unset, .unset, .unset, .unset, .unset] [])) (fun _ kt_ => XS.istore X6.here hx rfl (hb hby at_28) rfl (l' := #[.val (.int p0), .val (.int p1), .val (.ref t_3), .val (.int sv), .val (.int (sv % (6 : Int32))), .unset, .unset, .unset, .unset, .unset]) rfl kt_) ?_
    obtain ⟨r1, r2⟩ := c_irem sv (6 : Int32) 6 rfl
    have m1 := Int32.le_toInt sv
    have J8 : ∀ (T8 : State) (lo8 : List Loc) (X8 : Stand p l e room_1 s m #[(.int p0), (.int p1)] below meth c T8 lo8 0 0) (e8 : T8.heap = h0) (N8 : Fr n0 lo8) (mv : Int32), (0 ≤ mv.toInt ∧ mv.toInt < 6 ∧ (mv.toInt - sv.toInt) % 6 = 0) → OGoal p e below (fun oo_ UV_ => ∃ vv_ LL_, oo_ = .returned vv_ ∧ Q_rm0 Z w0 w1 w2 w3 w4 w5 wV kV p0 p1 h0 n0 vv_ UV_.heap LL_ ∧ FrameEnd s oo_ UV_ LL_ 1 6) T8 (mkF m 38 #[.val (.int p0), .val (.int p1), .val (.ref t_3), .val (.int sv), .val (.int mv), .unset, .unset, .unset, .unset, .unset] []) := by
      intro T8 lo8 X8 e8 N8 mv  hj9
      refine own_by (T' := T8) (g' := (mkF m 39 #[.val (.int p0), .val (.int p1), .val (.ref t_3), .val (.int sv), .val (.int mv), .unset, .unset, .unset, .unset, .unset] [(.ref t_3)])) (fun _ kt_ => XS.aloadN X8.here hx rfl (hb hby at_38) rfl rfl kt_) ?_
      obtain ⟨cq10, kq10, q10a, q10b, q10c⟩ := isOf hZ e8 p2_0
      obtain ⟨_, _, ⟨T10, L10, k10, n10⟩, -, X10, ⟨Lc10, hQ10, l10, y10, z10⟩, st10⟩ := X8.virtualBack hx (y := (⟨"com/example/redoubt/redoubt/core/Direction", "dq", "()I"⟩ : MethodName)) (z := (⟨"com/example/redoubt/redoubt/core/Direction", "dq", "()I"⟩ : MethodName)) hown (mvT hZ (hw _ (List.mem_of_getElem? (i := 9) rfl))) (mvT hZ (hw _ (List.mem_of_getElem? (i := 10) rfl))) (notFace_of_selects (args := #[]) (mvT hZ (hw _ (List.mem_of_getElem? (i := 12) rfl)))) (mvT hZ (hw _ (List.mem_of_getElem? (i := 12) rfl))) (mvT hZ (hw _ (List.mem_of_getElem? (i := 11) rfl))) (by decide) (backOf (W := 0) (rmDq l Z a0 hw [] w0 w1 w2 w3 w4 w5 wV kV GS t_3 (dqF od_4) h0 n0 (by omega) O0 p2_2) hZ (hw _ (List.mem_of_getElem? (i := 13) rfl)) (hw _ (List.mem_of_getElem? (i := 6) rfl)) (by decide) (by decide)) q10a q10c (g := (mkF m 39 #[.val (.int p0), .val (.int p1), .val (.ref t_3), .val (.int sv), .val (.int mv), .unset, .unset, .unset, .unset, .unset] [(.ref t_3)])) rfl (by rw [hml]; rfl) (Steps.refl _) (argsL := []) (rest := []) (lenOf own_pd_1 rfl) rfl (by show 2 * 0 + _ ≤ _; exact Nat.le_of_eq rfl) (hb hby at_39) (fun _ _ => ⟨rfl, e8, (by decide : 0 + 0 ≤ _), (by decide : 0 + 0 ≤ _)⟩)
      dsimp only [Pt.U, Pt.locs, Pt.cells, Pt.slots] at X10 l10 y10 z10 st10 hQ10
      subst l10 y10 z10
      obtain ⟨rfl, N10q, e10⟩ := hQ10
      have N11 := Fr.app N8 N10q
      refine own_by (T' := T10) (g' := (mkF m 42 #[.val (.int p0), .val (.int p1), .val (.ref t_3), .val (.int sv), .val (.int mv), .unset, .unset, .unset, .unset, .unset] [(.int (dqF od_4))])) (fun _ kt_ => st10.trans kt_) ?_
      refine own_by (T' := T10) (g' := (mkF m 44 #[.val (.int p0), .val (.int p1), .val (.ref t_3), .val (.int sv), .val (.int mv), .val (.int (dqF od_4)), .unset, .unset, .unset, .unset] [])) (fun _ kt_ => XS.istore X10.here hx rfl (hb hby at_42) rfl (l' := #[.val (.int p0), .val (.int p1), .val (.ref t_3), .val (.int sv), .val (.int mv), .val (.int (dqF od_4)), .unset, .unset, .unset, .unset]) rfl kt_) ?_
      refine own_by (T' := T10) (g' := (mkF m 45 #[.val (.int p0), .val (.int p1), .val (.ref t_3), .val (.int sv), .val (.int mv), .val (.int (dqF od_4)), .unset, .unset, .unset, .unset] [(.ref t_3)])) (fun _ kt_ => XS.aloadN X10.here hx rfl (hb hby at_44) rfl rfl kt_) ?_
      obtain ⟨cq12, kq12, q12a, q12b, q12c⟩ := isOf hZ e10 p2_0
      obtain ⟨_, _, ⟨T12, L12, k12, n12⟩, -, X12, ⟨Lc12, hQ12, l12, y12, z12⟩, st12⟩ := X10.virtualBack hx (y := (⟨"com/example/redoubt/redoubt/core/Direction", "dr", "()I"⟩ : MethodName)) (z := (⟨"com/example/redoubt/redoubt/core/Direction", "dr", "()I"⟩ : MethodName)) hown (mvT hZ (hw _ (List.mem_of_getElem? (i := 16) rfl))) (mvT hZ (hw _ (List.mem_of_getElem? (i := 17) rfl))) (notFace_of_selects (args := #[]) (mvT hZ (hw _ (List.mem_of_getElem? (i := 19) rfl)))) (mvT hZ (hw _ (List.mem_of_getElem? (i := 19) rfl))) (mvT hZ (hw _ (List.mem_of_getElem? (i := 18) rfl))) (by decide) (backOf (W := 0) (rmDr l Z a0 hw [] w0 w1 w2 w3 w4 w5 wV kV GS t_3 (drF od_4) h0 n0 (by omega) O0 p2_3) hZ (hw _ (List.mem_of_getElem? (i := 20) rfl)) (hw _ (List.mem_of_getElem? (i := 6) rfl)) (by decide) (by decide)) q12a q12c (g := (mkF m 45 #[.val (.int p0), .val (.int p1), .val (.ref t_3), .val (.int sv), .val (.int mv), .val (.int (dqF od_4)), .unset, .unset, .unset, .unset] [(.ref t_3)])) rfl (by rw [hml]; rfl) (Steps.refl _) (argsL := []) (rest := []) (lenOf own_pd_1 rfl) rfl (by show 2 * 0 + _ ≤ _; exact Nat.le_of_eq rfl) (hb hby at_45) (fun _ _ => ⟨rfl, e10, (by decide : 0 + 0 ≤ _), (by decide : 0 + 0 ≤ _)⟩)
      dsimp only [Pt.U, Pt.locs, Pt.cells, Pt.slots] at X12 l12 y12 z12 st12 hQ12
      subst l12 y12 z12
      obtain ⟨rfl, N12q, e12⟩ := hQ12
      have N13 := Fr.app N11 N12q
      refine own_by (T' := T12) (g' := (mkF m 48 #[.val (.int p0), .val (.int p1), .val (.ref t_3), .val (.int sv), .val (.int mv), .val (.int (dqF od_4)), .unset, .unset, .unset, .unset] [(.int (drF od_4))])) (fun _ kt_ => st12.trans kt_) ?_
      refine own_by (T' := T12) (g' := (mkF m 50 #[.val (.int p0), .val (.int p1), .val (.ref t_3), .val (.int sv), .val (.int mv), .val (.int (dqF od_4)), .val (.int (drF od_4)), .unset, .unset, .unset] [])) (fun _ kt_ => XS.istore X12.here hx rfl (hb hby at_48) rfl (l' := #[.val (.int p0), .val (.int p1), .val (.ref t_3), .val (.int sv), .val (.int mv), .val (.int (dqF od_4)), .val (.int (drF od_4)), .unset, .unset, .unset]) rfl kt_) ?_
      refine own_by (T' := T12) (g' := (mkF m 52 #[.val (.int p0), .val (.int p1), .val (.ref t_3), .val (.int sv), .val (.int mv), .val (.int (dqF od_4)), .val (.int (drF od_4)), .unset, .unset, .unset] [(.int mv)])) (fun _ kt_ => XS.iload X12.here hx rfl (hb hby at_50) rfl kt_) ?_
      by_cases hc14 : mv = (0 : Int32)
      · refine own_by (T' := T12) (g' := (mkF m 55 #[.val (.int p0), .val (.int p1), .val (.ref t_3), .val (.int sv), .val (.int mv), .val (.int (dqF od_4)), .val (.int (drF od_4)), .unset, .unset, .unset] [])) (fun _ kt_ => XS.ifNo X12.here hx rfl (hb hby at_52) rfl (XT.i0_ne_f hc14) kt_) ?_
        refine own_by (T' := T12) (g' := (mkF m 57 #[.val (.int p0), .val (.int p1), .val (.ref t_3), .val (.int sv), .val (.int mv), .val (.int (dqF od_4)), .val (.int (drF od_4)), .unset, .unset, .unset] [(.int (dqF od_4))])) (fun _ kt_ => XS.iload X12.here hx rfl (hb hby at_55) rfl kt_) ?_
        refine own_by (T' := T12) (g' := (mkF m 59 #[.val (.int p0), .val (.int p1), .val (.ref t_3), .val (.int sv), .val (.int mv), .val (.int (dqF od_4)), .val (.int (drF od_4)), .val (.int (dqF od_4)), .unset, .unset] [])) (fun _ kt_ => XS.istore X12.here hx rfl (hb hby at_57) rfl (l' := #[.val (.int p0), .val (.int p1), .val (.ref t_3), .val (.int sv), .val (.int mv), .val (.int (dqF od_4)), .val (.int (drF od_4)), .val (.int (dqF od_4)), .unset, .unset]) rfl kt_) ?_
        refine own_by (T' := T12) (g' := (mkF m 61 #[.val (.int p0), .val (.int p1), .val (.ref t_3), .val (.int sv), .val (.int mv), .val (.int (dqF od_4)), .val (.int (drF od_4)), .val (.int (dqF od_4)), .unset, .unset] [(.int (drF od_4))])) (fun _ kt_ => XS.iload X12.here hx rfl (hb hby at_59) rfl kt_) ?_
        refine own_by (T' := T12) (g' := (mkF m 63 #[.val (.int p0), .val (.int p1), .val (.ref t_3), .val (.int sv), .val (.int mv), .val (.int (dqF od_4)), .val (.int (drF od_4)), .val (.int (dqF od_4)), .val (.int (drF od_4)), .unset] [])) (fun _ kt_ => XS.istore X12.here hx rfl (hb hby at_61) rfl (l' := #[.val (.int p0), .val (.int p1), .val (.ref t_3), .val (.int sv), .val (.int mv), .val (.int (dqF od_4)), .val (.int (drF od_4)), .val (.int (dqF od_4)), .val (.int (drF od_4)), .unset]) rfl kt_) ?_
        refine own_by (T' := T12) (g' := (mkF m 160 #[.val (.int p0), .val (.int p1), .val (.ref t_3), .val (.int sv), .val (.int mv), .val (.int (dqF od_4)), .val (.int (drF od_4)), .val (.int (dqF od_4)), .val (.int (drF od_4)), .unset] [])) (fun _ kt_ => XS.goto X12.here hx rfl (pc0 := 63) (pc' := 160) rfl (hb hby at_63) (by decide) (by decide) kt_) ?_
        refine own_by (T' := T12) (g' := (mkF m 161 #[.val (.int p0), .val (.int p1), .val (.ref t_3), .val (.int sv), .val (.int mv), .val (.int (dqF od_4)), .val (.int (drF od_4)), .val (.int (dqF od_4)), .val (.int (drF od_4)), .unset] [(.ref t_3)])) (fun _ kt_ => XS.aloadN X12.here hx rfl (hb hby at_160) rfl rfl kt_) ?_
        refine own_by (T' := T12) (g' := (mkF m 162 #[.val (.int p0), .val (.int p1), .val (.ref t_3), .val (.int sv), .val (.int mv), .val (.int (dqF od_4)), .val (.int (drF od_4)), .val (.int (dqF od_4)), .val (.int (drF od_4)), .unset] [(.int sv), (.ref t_3)])) (fun _ kt_ => XS.iloadN X12.here hx rfl (hb hby at_161) rfl kt_) ?_
        obtain ⟨cq15, kq15, q15a, q15b, q15c⟩ := isOf hZ e12 p2_0
        obtain ⟨_, _, ⟨T15, L15, k15, n15⟩, -, X15, ⟨Lc15, hQ15, l15, y15, z15⟩, st15⟩ := X12.virtualBack hx (y := (⟨"com/example/redoubt/redoubt/core/Direction", "clockwise", "(I)Lcom/example/redoubt/redoubt/core/Direction;"⟩ : MethodName)) (z := (⟨"com/example/redoubt/redoubt/core/Direction", "clockwise", "(I)Lcom/example/redoubt/redoubt/core/Direction;"⟩ : MethodName)) hown (mvT hZ (hw _ (List.mem_of_getElem? (i := 23) rfl))) (mvT hZ (hw _ (List.mem_of_getElem? (i := 24) rfl))) (notFace_of_selects (args := #[]) (mvT hZ (hw _ (List.mem_of_getElem? (i := 26) rfl)))) (mvT hZ (hw _ (List.mem_of_getElem? (i := 26) rfl))) (mvT hZ (hw _ (List.mem_of_getElem? (i := 25) rfl))) (by decide) (backOf (W := 0) (rmCw l Z a0 hw [] w0 w1 w2 w3 w4 w5 wV kV GS t_3 od_4 sv h0 n0 (by omega) O0 p2_0 p2_1) hZ (hw _ (List.mem_of_getElem? (i := 27) rfl)) (hw _ (List.mem_of_getElem? (i := 6) rfl)) (by decide) (by decide)) q15a q15c (g := (mkF m 162 #[.val (.int p0), .val (.int p1), .val (.ref t_3), .val (.int sv), .val (.int mv), .val (.int (dqF od_4)), .val (.int (drF od_4)), .val (.int (dqF od_4)), .val (.int (drF od_4)), .unset] [(.int sv), (.ref t_3)])) rfl (by rw [hml]; rfl) (Steps.refl _) (argsL := [(.int sv)]) (rest := []) (lenOf own_pd_3 rfl) rfl (by show 2 * 0 + _ ≤ _; exact Nat.le_of_eq rfl) (hb hby at_162) (fun _ _ => ⟨rfl, e12, (by decide : 0 + 1 ≤ _), (by decide : 0 + 6 ≤ _)⟩)
        dsimp only [Pt.U, Pt.locs, Pt.cells, Pt.slots] at X15 l15 y15 z15 st15 hQ15
        subst l15 y15 z15
        obtain ⟨t_16, rfl, N15q, K15, p15_0, p15_1, p15_2⟩ := hQ15
        have N17 := Fr.app N13 N15q
        have zzK15 : h0.size ≤ T15.heap.size := K15.1
        have oo18 : Old Z n0 T15.heap := O0.keep K15 all0
        have kt19 : Keep h0 T15.heap [] := KT0.trans K15 all0
        refine own_by (T' := T15) (g' := (mkF m 165 #[.val (.int p0), .val (.int p1), .val (.ref t_3), .val (.int sv), .val (.int mv), .val (.int (dqF od_4)), .val (.int (drF od_4)), .val (.int (dqF od_4)), .val (.int (drF od_4)), .unset] [(.ref t_16)])) (fun _ kt_ => st15.trans kt_) ?_
        refine own_by (T' := T15) (g' := (mkF m 167 #[.val (.int p0), .val (.int p1), .val (.ref t_3), .val (.int sv), .val (.int mv), .val (.int (dqF od_4)), .val (.int (drF od_4)), .val (.int (dqF od_4)), .val (.int (drF od_4)), .val (.ref t_16)] [])) (fun _ kt_ => XS.astore X15.here hx rfl (hb hby at_165) rfl rfl (l' := #[.val (.int p0), .val (.int p1), .val (.ref t_3), .val (.int sv), .val (.int mv), .val (.int (dqF od_4)), .val (.int (drF od_4)), .val (.int (dqF od_4)), .val (.int (drF od_4)), .val (.ref t_16)]) rfl kt_) ?_
        refine own_by (T' := T15) (g' := (mkF m 169 #[.val (.int p0), .val (.int p1), .val (.ref t_3), .val (.int sv), .val (.int mv), .val (.int (dqF od_4)), .val (.int (drF od_4)), .val (.int (dqF od_4)), .val (.int (drF od_4)), .val (.ref t_16)] [(.ref t_16)])) (fun _ kt_ => XS.aload X15.here hx rfl (hb hby at_167) rfl rfl kt_) ?_
        refine own_by (T' := T15) (g' := (mkF m 172 #[.val (.int p0), .val (.int p1), .val (.ref t_3), .val (.int sv), .val (.int mv), .val (.int (dqF od_4)), .val (.int (drF od_4)), .val (.int (dqF od_4)), .val (.int (drF od_4)), .val (.ref t_16)] [])) (fun _ kt_ => XS.ifnullNo X15.here hx rfl (hb hby at_169) rfl kt_) ?_
        refine own_by (T' := T15) (g' := (mkF m 174 #[.val (.int p0), .val (.int p1), .val (.ref t_3), .val (.int sv), .val (.int mv), .val (.int (dqF od_4)), .val (.int (drF od_4)), .val (.int (dqF od_4)), .val (.int (drF od_4)), .val (.ref t_16)] [(.ref t_16)])) (fun _ kt_ => XS.aload X15.here hx rfl (hb hby at_172) rfl rfl kt_) ?_
        obtain ⟨cq20, kq20, q20a, q20b, q20c⟩ := isOf hZ rfl p15_0
        obtain ⟨_, _, ⟨T20, L20, k20, n20⟩, -, X20, ⟨Lc20, hQ20, l20, y20, z20⟩, st20⟩ := X15.virtualBack hx (y := (⟨"com/example/redoubt/redoubt/core/Direction", "dq", "()I"⟩ : MethodName)) (z := (⟨"com/example/redoubt/redoubt/core/Direction", "dq", "()I"⟩ : MethodName)) hown (mvT hZ (hw _ (List.mem_of_getElem? (i := 9) rfl))) (mvT hZ (hw _ (List.mem_of_getElem? (i := 10) rfl))) (notFace_of_selects (args := #[]) (mvT hZ (hw _ (List.mem_of_getElem? (i := 12) rfl)))) (mvT hZ (hw _ (List.mem_of_getElem? (i := 12) rfl))) (mvT hZ (hw _ (List.mem_of_getElem? (i := 11) rfl))) (by decide) (backOf (W := 0) (rmDq l Z a0 hw [] w0 w1 w2 w3 w4 w5 wV kV GS t_16 (dqF (fmF (od_4 + sv) (6 : Int32))) T15.heap n0 (by omega) oo18 p15_1) hZ (hw _ (List.mem_of_getElem? (i := 13) rfl)) (hw _ (List.mem_of_getElem? (i := 6) rfl)) (by decide) (by decide)) q20a q20c (g := (mkF m 174 #[.val (.int p0), .val (.int p1), .val (.ref t_3), .val (.int sv), .val (.int mv), .val (.int (dqF od_4)), .val (.int (drF od_4)), .val (.int (dqF od_4)), .val (.int (drF od_4)), .val (.ref t_16)] [(.ref t_16)])) rfl (by rw [hml]; rfl) (Steps.refl _) (argsL := []) (rest := []) (lenOf own_pd_1 rfl) rfl (by show 2 * 0 + _ ≤ _; exact Nat.le_of_eq rfl) (hb hby at_174) (fun _ _ => ⟨rfl, rfl, (by decide : 1 + 0 ≤ _), (by decide : 6 + 0 ≤ _)⟩)
        dsimp only [Pt.U, Pt.locs, Pt.cells, Pt.slots] at X20 l20 y20 z20 st20 hQ20
        subst l20 y20 z20
        obtain ⟨rfl, N20q, e20⟩ := hQ20
        have N21 := Fr.app N17 N20q
        refine own_by (T' := T20) (g' := (mkF m 177 #[.val (.int p0), .val (.int p1), .val (.ref t_3), .val (.int sv), .val (.int mv), .val (.int (dqF od_4)), .val (.int (drF od_4)), .val (.int (dqF od_4)), .val (.int (drF od_4)), .val (.ref t_16)] [(.int (dqF (fmF (od_4 + sv) (6 : Int32))))])) (fun _ kt_ => st20.trans kt_) ?_
        refine own_by (T' := T20) (g' := (mkF m 179 #[.val (.int p0), .val (.int p1), .val (.ref t_3), .val (.int sv), .val (.int mv), .val (.int (dqF od_4)), .val (.int (drF od_4)), .val (.int (dqF od_4)), .val (.int (drF od_4)), .val (.ref t_16)] [(.int (dqF od_4)), (.int (dqF (fmF (od_4 + sv) (6 : Int32))))])) (fun _ kt_ => XS.iload X20.here hx rfl (hb hby at_177) rfl kt_) ?_
        refine own_by (T' := T20) (g' := (mkF m 182 #[.val (.int p0), .val (.int p1), .val (.ref t_3), .val (.int sv), .val (.int mv), .val (.int (dqF od_4)), .val (.int (drF od_4)), .val (.int (dqF od_4)), .val (.int (drF od_4)), .val (.ref t_16)] [])) (fun _ kt_ => XS.icmpNo X20.here hx rfl (hb hby at_179) rfl (XT.ii_ne_f ((own_law od_4 sv mv p2_4 hj7 hj9).1 hc14).1) kt_) ?_
        refine own_by (T' := T20) (g' := (mkF m 184 #[.val (.int p0), .val (.int p1), .val (.ref t_3), .val (.int sv), .val (.int mv), .val (.int (dqF od_4)), .val (.int (drF od_4)), .val (.int (dqF od_4)), .val (.int (drF od_4)), .val (.ref t_16)] [(.ref t_16)])) (fun _ kt_ => XS.aload X20.here hx rfl (hb hby at_182) rfl rfl kt_) ?_
        obtain ⟨cq22, kq22, q22a, q22b, q22c⟩ := isOf hZ e20 p15_0
        obtain ⟨_, _, ⟨T22, L22, k22, n22⟩, -, X22, ⟨Lc22, hQ22, l22, y22, z22⟩, st22⟩ := X20.virtualBack hx (y := (⟨"com/example/redoubt/redoubt/core/Direction", "dr", "()I"⟩ : MethodName)) (z := (⟨"com/example/redoubt/redoubt/core/Direction", "dr", "()I"⟩ : MethodName)) hown (mvT hZ (hw _ (List.mem_of_getElem? (i := 16) rfl))) (mvT hZ (hw _ (List.mem_of_getElem? (i := 17) rfl))) (notFace_of_selects (args := #[]) (mvT hZ (hw _ (List.mem_of_getElem? (i := 19) rfl)))) (mvT hZ (hw _ (List.mem_of_getElem? (i := 19) rfl))) (mvT hZ (hw _ (List.mem_of_getElem? (i := 18) rfl))) (by decide) (backOf (W := 0) (rmDr l Z a0 hw [] w0 w1 w2 w3 w4 w5 wV kV GS t_16 (drF (fmF (od_4 + sv) (6 : Int32))) T15.heap n0 (by omega) oo18 p15_2) hZ (hw _ (List.mem_of_getElem? (i := 20) rfl)) (hw _ (List.mem_of_getElem? (i := 6) rfl)) (by decide) (by decide)) q22a q22c (g := (mkF m 184 #[.val (.int p0), .val (.int p1), .val (.ref t_3), .val (.int sv), .val (.int mv), .val (.int (dqF od_4)), .val (.int (drF od_4)), .val (.int (dqF od_4)), .val (.int (drF od_4)), .val (.ref t_16)] [(.ref t_16)])) rfl (by rw [hml]; rfl) (Steps.refl _) (argsL := []) (rest := []) (lenOf own_pd_1 rfl) rfl (by show 2 * 0 + _ ≤ _; exact Nat.le_of_eq rfl) (hb hby at_184) (fun _ _ => ⟨rfl, e20, (by decide : 1 + 0 ≤ _), (by decide : 6 + 0 ≤ _)⟩)
        dsimp only [Pt.U, Pt.locs, Pt.cells, Pt.slots] at X22 l22 y22 z22 st22 hQ22
        subst l22 y22 z22
        obtain ⟨rfl, N22q, e22⟩ := hQ22
        have N23 := Fr.app N21 N22q
        refine own_by (T' := T22) (g' := (mkF m 187 #[.val (.int p0), .val (.int p1), .val (.ref t_3), .val (.int sv), .val (.int mv), .val (.int (dqF od_4)), .val (.int (drF od_4)), .val (.int (dqF od_4)), .val (.int (drF od_4)), .val (.ref t_16)] [(.int (drF (fmF (od_4 + sv) (6 : Int32))))])) (fun _ kt_ => st22.trans kt_) ?_
        refine own_by (T' := T22) (g' := (mkF m 189 #[.val (.int p0), .val (.int p1), .val (.ref t_3), .val (.int sv), .val (.int mv), .val (.int (dqF od_4)), .val (.int (drF od_4)), .val (.int (dqF od_4)), .val (.int (drF od_4)), .val (.ref t_16)] [(.int (drF od_4)), (.int (drF (fmF (od_4 + sv) (6 : Int32))))])) (fun _ kt_ => XS.iload X22.here hx rfl (hb hby at_187) rfl kt_) ?_
        refine own_by (T' := T22) (g' := (mkF m 192 #[.val (.int p0), .val (.int p1), .val (.ref t_3), .val (.int sv), .val (.int mv), .val (.int (dqF od_4)), .val (.int (drF od_4)), .val (.int (dqF od_4)), .val (.int (drF od_4)), .val (.ref t_16)] [])) (fun _ kt_ => XS.icmpNo X22.here hx rfl (hb hby at_189) rfl (XT.ii_ne_f ((own_law od_4 sv mv p2_4 hj7 hj9).1 hc14).2) kt_) ?_
        refine own_by (T' := T22) (g' := (mkF m 193 #[.val (.int p0), .val (.int p1), .val (.ref t_3), .val (.int sv), .val (.int mv), .val (.int (dqF od_4)), .val (.int (drF od_4)), .val (.int (dqF od_4)), .val (.int (drF od_4)), .val (.ref t_16)] [(.int (1 : Int32))])) (fun _ kt_ => XS.iconst X22.here hx rfl (hb hby at_192) kt_) ?_
        refine own_by (T' := T22) (g' := (mkF m 197 #[.val (.int p0), .val (.int p1), .val (.ref t_3), .val (.int sv), .val (.int mv), .val (.int (dqF od_4)), .val (.int (drF od_4)), .val (.int (dqF od_4)), .val (.int (drF od_4)), .val (.ref t_16)] [(.int (1 : Int32))])) (fun _ kt_ => XS.goto X22.here hx rfl (pc0 := 193) (pc' := 197) rfl (hb hby at_193) (by decide) (by decide) kt_) ?_
        have hn24 : nar .boolean (1 : Int32) = (1 : Int32) := rfl
        obtain ⟨fs25, hr25, hrun25, hended25, hW25, hsame25⟩ := X22.leave (v := some (.int (nar .boolean (1 : Int32)))) (fun h => by rw [Bd.returns] at h; cases h)
        refine ⟨_, _, retN X22 hx (t := .boolean) Bd.returns (by simp) (hb hby at_197) hr25, hrun25, hended25, _, _, rfl, ?_, ⟨_, rfl⟩, hW25, hsame25.mono (by decide) (by decide)⟩
        show Q_rm0 Z w0 w1 w2 w3 w4 w5 wV kV p0 p1 h0 n0 _ T22.heap _
        exact ⟨(congrArg (fun z => some (Value.int z)) hn24), N23⟩
      · refine own_by (T' := T12) (g' := (mkF m 66 #[.val (.int p0), .val (.int p1), .val (.ref t_3), .val (.int sv), .val (.int mv), .val (.int (dqF od_4)), .val (.int (drF od_4)), .unset, .unset, .unset] [])) (fun _ kt_ => XS.ifYes X12.here hx rfl (pc0 := 52) (pc' := 66) rfl (hb hby at_52) rfl (XT.i0_ne_t hc14) (by decide) (by decide) kt_) ?_
        refine own_by (T' := T12) (g' := (mkF m 68 #[.val (.int p0), .val (.int p1), .val (.ref t_3), .val (.int sv), .val (.int mv), .val (.int (dqF od_4)), .val (.int (drF od_4)), .unset, .unset, .unset] [(.int mv)])) (fun _ kt_ => XS.iload X12.here hx rfl (hb hby at_66) rfl kt_) ?_
        refine own_by (T' := T12) (g' := (mkF m 69 #[.val (.int p0), .val (.int p1), .val (.ref t_3), .val (.int sv), .val (.int mv), .val (.int (dqF od_4)), .val (.int (drF od_4)), .unset, .unset, .unset] [(.int (1 : Int32)), (.int mv)])) (fun _ kt_ => XS.iconst X12.here hx rfl (hb hby at_68) kt_) ?_
        by_cases hc26 : mv = (1 : Int32)
        · refine own_by (T' := T12) (g' := (mkF m 72 #[.val (.int p0), .val (.int p1), .val (.ref t_3), .val (.int sv), .val (.int mv), .val (.int (dqF od_4)), .val (.int (drF od_4)), .unset, .unset, .unset] [])) (fun _ kt_ => XS.icmpNo X12.here hx rfl (hb hby at_69) rfl (XT.ii_ne_f hc26) kt_) ?_
          refine own_by (T' := T12) (g' := (mkF m 74 #[.val (.int p0), .val (.int p1), .val (.ref t_3), .val (.int sv), .val (.int mv), .val (.int (dqF od_4)), .val (.int (drF od_4)), .unset, .unset, .unset] [(.int (drF od_4))])) (fun _ kt_ => XS.iload X12.here hx rfl (hb hby at_72) rfl kt_) ?_
          refine own_by (T' := T12) (g' := (mkF m 75 #[.val (.int p0), .val (.int p1), .val (.ref t_3), .val (.int sv), .val (.int mv), .val (.int (dqF od_4)), .val (.int (drF od_4)), .unset, .unset, .unset] [(.int (-(drF od_4)))])) (fun _ kt_ => XS.ineg X12.here hx rfl (hb hby at_74) rfl kt_) ?_
          refine own_by (T' := T12) (g' := (mkF m 77 #[.val (.int p0), .val (.int p1), .val (.ref t_3), .val (.int sv), .val (.int mv), .val (.int (dqF od_4)), .val (.int (drF od_4)), .val (.int (-(drF od_4))), .unset, .unset] [])) (fun _ kt_ => XS.istore X12.here hx rfl (hb hby at_75) rfl (l' := #[.val (.int p0), .val (.int p1), .val (.ref t_3), .val (.int sv), .val (.int mv), .val (.int (dqF od_4)), .val (.int (drF od_4)), .val (.int (-(drF od_4))), .unset, .unset]) rfl kt_) ?_
          refine own_by (T' := T12) (g' := (mkF m 79 #[.val (.int p0), .val (.int p1), .val (.ref t_3), .val (.int sv), .val (.int mv), .val (.int (dqF od_4)), .val (.int (drF od_4)), .val (.int (-(drF od_4))), .unset, .unset] [(.int (dqF od_4))])) (fun _ kt_ => XS.iload X12.here hx rfl (hb hby at_77) rfl kt_) ?_
          refine own_by (T' := T12) (g' := (mkF m 81 #[.val (.int p0), .val (.int p1), .val (.ref t_3), .val (.int sv), .val (.int mv), .val (.int (dqF od_4)), .val (.int (drF od_4)), .val (.int (-(drF od_4))), .unset, .unset] [(.int (drF od_4)), (.int (dqF od_4))])) (fun _ kt_ => XS.iload X12.here hx rfl (hb hby at_79) rfl kt_) ?_
          refine own_by (T' := T12) (g' := (mkF m 82 #[.val (.int p0), .val (.int p1), .val (.ref t_3), .val (.int sv), .val (.int mv), .val (.int (dqF od_4)), .val (.int (drF od_4)), .val (.int (-(drF od_4))), .unset, .unset] [(.int ((dqF od_4) + (drF od_4)))])) (fun _ kt_ => XS.iadd X12.here hx rfl (hb hby at_81) rfl kt_) ?_
          refine own_by (T' := T12) (g' := (mkF m 84 #[.val (.int p0), .val (.int p1), .val (.ref t_3), .val (.int sv), .val (.int mv), .val (.int (dqF od_4)), .val (.int (drF od_4)), .val (.int (-(drF od_4))), .val (.int ((dqF od_4) + (drF od_4))), .unset] [])) (fun _ kt_ => XS.istore X12.here hx rfl (hb hby at_82) rfl (l' := #[.val (.int p0), .val (.int p1), .val (.ref t_3), .val (.int sv), .val (.int mv), .val (.int (dqF od_4)), .val (.int (drF od_4)), .val (.int (-(drF od_4))), .val (.int ((dqF od_4) + (drF od_4))), .unset]) rfl kt_) ?_
          refine own_by (T' := T12) (g' := (mkF m 160 #[.val (.int p0), .val (.int p1), .val (.ref t_3), .val (.int sv), .val (.int mv), .val (.int (dqF od_4)), .val (.int (drF od_4)), .val (.int (-(drF od_4))), .val (.int ((dqF od_4) + (drF od_4))), .unset] [])) (fun _ kt_ => XS.goto X12.here hx rfl (pc0 := 84) (pc' := 160) rfl (hb hby at_84) (by decide) (by decide) kt_) ?_
          refine own_by (T' := T12) (g' := (mkF m 161 #[.val (.int p0), .val (.int p1), .val (.ref t_3), .val (.int sv), .val (.int mv), .val (.int (dqF od_4)), .val (.int (drF od_4)), .val (.int (-(drF od_4))), .val (.int ((dqF od_4) + (drF od_4))), .unset] [(.ref t_3)])) (fun _ kt_ => XS.aloadN X12.here hx rfl (hb hby at_160) rfl rfl kt_) ?_
          refine own_by (T' := T12) (g' := (mkF m 162 #[.val (.int p0), .val (.int p1), .val (.ref t_3), .val (.int sv), .val (.int mv), .val (.int (dqF od_4)), .val (.int (drF od_4)), .val (.int (-(drF od_4))), .val (.int ((dqF od_4) + (drF od_4))), .unset] [(.int sv), (.ref t_3)])) (fun _ kt_ => XS.iloadN X12.here hx rfl (hb hby at_161) rfl kt_) ?_
          obtain ⟨cq27, kq27, q27a, q27b, q27c⟩ := isOf hZ e12 p2_0
          obtain ⟨_, _, ⟨T27, L27, k27, n27⟩, -, X27, ⟨Lc27, hQ27, l27, y27, z27⟩, st27⟩ := X12.virtualBack hx (y := (⟨"com/example/redoubt/redoubt/core/Direction", "clockwise", "(I)Lcom/example/redoubt/redoubt/core/Direction;"⟩ : MethodName)) (z := (⟨"com/example/redoubt/redoubt/core/Direction", "clockwise", "(I)Lcom/example/redoubt/redoubt/core/Direction;"⟩ : MethodName)) hown (mvT hZ (hw _ (List.mem_of_getElem? (i := 23) rfl))) (mvT hZ (hw _ (List.mem_of_getElem? (i := 24) rfl))) (notFace_of_selects (args := #[]) (mvT hZ (hw _ (List.mem_of_getElem? (i := 26) rfl)))) (mvT hZ (hw _ (List.mem_of_getElem? (i := 26) rfl))) (mvT hZ (hw _ (List.mem_of_getElem? (i := 25) rfl))) (by decide) (backOf (W := 0) (rmCw l Z a0 hw [] w0 w1 w2 w3 w4 w5 wV kV GS t_3 od_4 sv h0 n0 (by omega) O0 p2_0 p2_1) hZ (hw _ (List.mem_of_getElem? (i := 27) rfl)) (hw _ (List.mem_of_getElem? (i := 6) rfl)) (by decide) (by decide)) q27a q27c (g := (mkF m 162 #[.val (.int p0), .val (.int p1), .val (.ref t_3), .val (.int sv), .val (.int mv), .val (.int (dqF od_4)), .val (.int (drF od_4)), .val (.int (-(drF od_4))), .val (.int ((dqF od_4) + (drF od_4))), .unset] [(.int sv), (.ref t_3)])) rfl (by rw [hml]; rfl) (Steps.refl _) (argsL := [(.int sv)]) (rest := []) (lenOf own_pd_3 rfl) rfl (by show 2 * 0 + _ ≤ _; exact Nat.le_of_eq rfl) (hb hby at_162) (fun _ _ => ⟨rfl, e12, (by decide : 0 + 1 ≤ _), (by decide : 0 + 6 ≤ _)⟩)
          dsimp only [Pt.U, Pt.locs, Pt.cells, Pt.slots] at X27 l27 y27 z27 st27 hQ27
          subst l27 y27 z27
          obtain ⟨t_28, rfl, N27q, K27, p27_0, p27_1, p27_2⟩ := hQ27
          have N29 := Fr.app N13 N27q
          have zzK27 : h0.size ≤ T27.heap.size := K27.1
          have oo30 : Old Z n0 T27.heap := O0.keep K27 all0
          have kt31 : Keep h0 T27.heap [] := KT0.trans K27 all0
          refine own_by (T' := T27) (g' := (mkF m 165 #[.val (.int p0), .val (.int p1), .val (.ref t_3), .val (.int sv), .val (.int mv), .val (.int (dqF od_4)), .val (.int (drF od_4)), .val (.int (-(drF od_4))), .val (.int ((dqF od_4) + (drF od_4))), .unset] [(.ref t_28)])) (fun _ kt_ => st27.trans kt_) ?_
          refine own_by (T' := T27) (g' := (mkF m 167 #[.val (.int p0), .val (.int p1), .val (.ref t_3), .val (.int sv), .val (.int mv), .val (.int (dqF od_4)), .val (.int (drF od_4)), .val (.int (-(drF od_4))), .val (.int ((dqF od_4) + (drF od_4))), .val (.ref t_28)] [])) (fun _ kt_ => XS.astore X27.here hx rfl (hb hby at_165) rfl rfl (l' := #[.val (.int p0), .val (.int p1), .val (.ref t_3), .val (.int sv), .val (.int mv), .val (.int (dqF od_4)), .val (.int (drF od_4)), .val (.int (-(drF od_4))), .val (.int ((dqF od_4) + (drF od_4))), .val (.ref t_28)]) rfl kt_) ?_
          refine own_by (T' := T27) (g' := (mkF m 169 #[.val (.int p0), .val (.int p1), .val (.ref t_3), .val (.int sv), .val (.int mv), .val (.int (dqF od_4)), .val (.int (drF od_4)), .val (.int (-(drF od_4))), .val (.int ((dqF od_4) + (drF od_4))), .val (.ref t_28)] [(.ref t_28)])) (fun _ kt_ => XS.aload X27.here hx rfl (hb hby at_167) rfl rfl kt_) ?_
          refine own_by (T' := T27) (g' := (mkF m 172 #[.val (.int p0), .val (.int p1), .val (.ref t_3), .val (.int sv), .val (.int mv), .val (.int (dqF od_4)), .val (.int (drF od_4)), .val (.int (-(drF od_4))), .val (.int ((dqF od_4) + (drF od_4))), .val (.ref t_28)] [])) (fun _ kt_ => XS.ifnullNo X27.here hx rfl (hb hby at_169) rfl kt_) ?_
          refine own_by (T' := T27) (g' := (mkF m 174 #[.val (.int p0), .val (.int p1), .val (.ref t_3), .val (.int sv), .val (.int mv), .val (.int (dqF od_4)), .val (.int (drF od_4)), .val (.int (-(drF od_4))), .val (.int ((dqF od_4) + (drF od_4))), .val (.ref t_28)] [(.ref t_28)])) (fun _ kt_ => XS.aload X27.here hx rfl (hb hby at_172) rfl rfl kt_) ?_
          obtain ⟨cq32, kq32, q32a, q32b, q32c⟩ := isOf hZ rfl p27_0
          obtain ⟨_, _, ⟨T32, L32, k32, n32⟩, -, X32, ⟨Lc32, hQ32, l32, y32, z32⟩, st32⟩ := X27.virtualBack hx (y := (⟨"com/example/redoubt/redoubt/core/Direction", "dq", "()I"⟩ : MethodName)) (z := (⟨"com/example/redoubt/redoubt/core/Direction", "dq", "()I"⟩ : MethodName)) hown (mvT hZ (hw _ (List.mem_of_getElem? (i := 9) rfl))) (mvT hZ (hw _ (List.mem_of_getElem? (i := 10) rfl))) (notFace_of_selects (args := #[]) (mvT hZ (hw _ (List.mem_of_getElem? (i := 12) rfl)))) (mvT hZ (hw _ (List.mem_of_getElem? (i := 12) rfl))) (mvT hZ (hw _ (List.mem_of_getElem? (i := 11) rfl))) (by decide) (backOf (W := 0) (rmDq l Z a0 hw [] w0 w1 w2 w3 w4 w5 wV kV GS t_28 (dqF (fmF (od_4 + sv) (6 : Int32))) T27.heap n0 (by omega) oo30 p27_1) hZ (hw _ (List.mem_of_getElem? (i := 13) rfl)) (hw _ (List.mem_of_getElem? (i := 6) rfl)) (by decide) (by decide)) q32a q32c (g := (mkF m 174 #[.val (.int p0), .val (.int p1), .val (.ref t_3), .val (.int sv), .val (.int mv), .val (.int (dqF od_4)), .val (.int (drF od_4)), .val (.int (-(drF od_4))), .val (.int ((dqF od_4) + (drF od_4))), .val (.ref t_28)] [(.ref t_28)])) rfl (by rw [hml]; rfl) (Steps.refl _) (argsL := []) (rest := []) (lenOf own_pd_1 rfl) rfl (by show 2 * 0 + _ ≤ _; exact Nat.le_of_eq rfl) (hb hby at_174) (fun _ _ => ⟨rfl, rfl, (by decide : 1 + 0 ≤ _), (by decide : 6 + 0 ≤ _)⟩)
          dsimp only [Pt.U, Pt.locs, Pt.cells, Pt.slots] at X32 l32 y32 z32 st32 hQ32
          subst l32 y32 z32
          obtain ⟨rfl, N32q, e32⟩ := hQ32
          have N33 := Fr.app N29 N32q
          refine own_by (T' := T32) (g' := (mkF m 177 #[.val (.int p0), .val (.int p1), .val (.ref t_3), .val (.int sv), .val (.int mv), .val (.int (dqF od_4)), .val (.int (drF od_4)), .val (.int (-(drF od_4))), .val (.int ((dqF od_4) + (drF od_4))), .val (.ref t_28)] [(.int (dqF (fmF (od_4 + sv) (6 : Int32))))])) (fun _ kt_ => st32.trans kt_) ?_
          refine own_by (T' := T32) (g' := (mkF m 179 #[.val (.int p0), .val (.int p1), .val (.ref t_3), .val (.int sv), .val (.int mv), .val (.int (dqF od_4)), .val (.int (drF od_4)), .val (.int (-(drF od_4))), .val (.int ((dqF od_4) + (drF od_4))), .val (.ref t_28)] [(.int (-(drF od_4))), (.int (dqF (fmF (od_4 + sv) (6 : Int32))))])) (fun _ kt_ => XS.iload X32.here hx rfl (hb hby at_177) rfl kt_) ?_
          refine own_by (T' := T32) (g' := (mkF m 182 #[.val (.int p0), .val (.int p1), .val (.ref t_3), .val (.int sv), .val (.int mv), .val (.int (dqF od_4)), .val (.int (drF od_4)), .val (.int (-(drF od_4))), .val (.int ((dqF od_4) + (drF od_4))), .val (.ref t_28)] [])) (fun _ kt_ => XS.icmpNo X32.here hx rfl (hb hby at_179) rfl (XT.ii_ne_f ((own_law od_4 sv mv p2_4 hj7 hj9).2.1 hc26).1) kt_) ?_
          refine own_by (T' := T32) (g' := (mkF m 184 #[.val (.int p0), .val (.int p1), .val (.ref t_3), .val (.int sv), .val (.int mv), .val (.int (dqF od_4)), .val (.int (drF od_4)), .val (.int (-(drF od_4))), .val (.int ((dqF od_4) + (drF od_4))), .val (.ref t_28)] [(.ref t_28)])) (fun _ kt_ => XS.aload X32.here hx rfl (hb hby at_182) rfl rfl kt_) ?_
          obtain ⟨cq34, kq34, q34a, q34b, q34c⟩ := isOf hZ e32 p27_0
          obtain ⟨_, _, ⟨T34, L34, k34, n34⟩, -, X34, ⟨Lc34, hQ34, l34, y34, z34⟩, st34⟩ := X32.virtualBack hx (y := (⟨"com/example/redoubt/redoubt/core/Direction", "dr", "()I"⟩ : MethodName)) (z := (⟨"com/example/redoubt/redoubt/core/Direction", "dr", "()I"⟩ : MethodName)) hown (mvT hZ (hw _ (List.mem_of_getElem? (i := 16) rfl))) (mvT hZ (hw _ (List.mem_of_getElem? (i := 17) rfl))) (notFace_of_selects (args := #[]) (mvT hZ (hw _ (List.mem_of_getElem? (i := 19) rfl)))) (mvT hZ (hw _ (List.mem_of_getElem? (i := 19) rfl))) (mvT hZ (hw _ (List.mem_of_getElem? (i := 18) rfl))) (by decide) (backOf (W := 0) (rmDr l Z a0 hw [] w0 w1 w2 w3 w4 w5 wV kV GS t_28 (drF (fmF (od_4 + sv) (6 : Int32))) T27.heap n0 (by omega) oo30 p27_2) hZ (hw _ (List.mem_of_getElem? (i := 20) rfl)) (hw _ (List.mem_of_getElem? (i := 6) rfl)) (by decide) (by decide)) q34a q34c (g := (mkF m 184 #[.val (.int p0), .val (.int p1), .val (.ref t_3), .val (.int sv), .val (.int mv), .val (.int (dqF od_4)), .val (.int (drF od_4)), .val (.int (-(drF od_4))), .val (.int ((dqF od_4) + (drF od_4))), .val (.ref t_28)] [(.ref t_28)])) rfl (by rw [hml]; rfl) (Steps.refl _) (argsL := []) (rest := []) (lenOf own_pd_1 rfl) rfl (by show 2 * 0 + _ ≤ _; exact Nat.le_of_eq rfl) (hb hby at_184) (fun _ _ => ⟨rfl, e32, (by decide : 1 + 0 ≤ _), (by decide : 6 + 0 ≤ _)⟩)
          dsimp only [Pt.U, Pt.locs, Pt.cells, Pt.slots] at X34 l34 y34 z34 st34 hQ34
          subst l34 y34 z34
          obtain ⟨rfl, N34q, e34⟩ := hQ34
          have N35 := Fr.app N33 N34q
          refine own_by (T' := T34) (g' := (mkF m 187 #[.val (.int p0), .val (.int p1), .val (.ref t_3), .val (.int sv), .val (.int mv), .val (.int (dqF od_4)), .val (.int (drF od_4)), .val (.int (-(drF od_4))), .val (.int ((dqF od_4) + (drF od_4))), .val (.ref t_28)] [(.int (drF (fmF (od_4 + sv) (6 : Int32))))])) (fun _ kt_ => st34.trans kt_) ?_
          refine own_by (T' := T34) (g' := (mkF m 189 #[.val (.int p0), .val (.int p1), .val (.ref t_3), .val (.int sv), .val (.int mv), .val (.int (dqF od_4)), .val (.int (drF od_4)), .val (.int (-(drF od_4))), .val (.int ((dqF od_4) + (drF od_4))), .val (.ref t_28)] [(.int ((dqF od_4) + (drF od_4))), (.int (drF (fmF (od_4 + sv) (6 : Int32))))])) (fun _ kt_ => XS.iload X34.here hx rfl (hb hby at_187) rfl kt_) ?_
          refine own_by (T' := T34) (g' := (mkF m 192 #[.val (.int p0), .val (.int p1), .val (.ref t_3), .val (.int sv), .val (.int mv), .val (.int (dqF od_4)), .val (.int (drF od_4)), .val (.int (-(drF od_4))), .val (.int ((dqF od_4) + (drF od_4))), .val (.ref t_28)] [])) (fun _ kt_ => XS.icmpNo X34.here hx rfl (hb hby at_189) rfl (XT.ii_ne_f ((own_law od_4 sv mv p2_4 hj7 hj9).2.1 hc26).2) kt_) ?_
          refine own_by (T' := T34) (g' := (mkF m 193 #[.val (.int p0), .val (.int p1), .val (.ref t_3), .val (.int sv), .val (.int mv), .val (.int (dqF od_4)), .val (.int (drF od_4)), .val (.int (-(drF od_4))), .val (.int ((dqF od_4) + (drF od_4))), .val (.ref t_28)] [(.int (1 : Int32))])) (fun _ kt_ => XS.iconst X34.here hx rfl (hb hby at_192) kt_) ?_
          refine own_by (T' := T34) (g' := (mkF m 197 #[.val (.int p0), .val (.int p1), .val (.ref t_3), .val (.int sv), .val (.int mv), .val (.int (dqF od_4)), .val (.int (drF od_4)), .val (.int (-(drF od_4))), .val (.int ((dqF od_4) + (drF od_4))), .val (.ref t_28)] [(.int (1 : Int32))])) (fun _ kt_ => XS.goto X34.here hx rfl (pc0 := 193) (pc' := 197) rfl (hb hby at_193) (by decide) (by decide) kt_) ?_
          have hn36 : nar .boolean (1 : Int32) = (1 : Int32) := rfl
          obtain ⟨fs37, hr37, hrun37, hended37, hW37, hsame37⟩ := X34.leave (v := some (.int (nar .boolean (1 : Int32)))) (fun h => by rw [Bd.returns] at h; cases h)
          refine ⟨_, _, retN X34 hx (t := .boolean) Bd.returns (by simp) (hb hby at_197) hr37, hrun37, hended37, _, _, rfl, ?_, ⟨_, rfl⟩, hW37, hsame37.mono (by decide) (by decide)⟩
          show Q_rm0 Z w0 w1 w2 w3 w4 w5 wV kV p0 p1 h0 n0 _ T34.heap _
          exact ⟨(congrArg (fun z => some (Value.int z)) hn36), N35⟩
        · refine own_by (T' := T12) (g' := (mkF m 87 #[.val (.int p0), .val (.int p1), .val (.ref t_3), .val (.int sv), .val (.int mv), .val (.int (dqF od_4)), .val (.int (drF od_4)), .unset, .unset, .unset] [])) (fun _ kt_ => XS.icmpYes X12.here hx rfl (pc0 := 69) (pc' := 87) rfl (hb hby at_69) rfl (XT.ii_ne_t hc26) (by decide) (by decide) kt_) ?_
          refine own_by (T' := T12) (g' := (mkF m 89 #[.val (.int p0), .val (.int p1), .val (.ref t_3), .val (.int sv), .val (.int mv), .val (.int (dqF od_4)), .val (.int (drF od_4)), .unset, .unset, .unset] [(.int mv)])) (fun _ kt_ => XS.iload X12.here hx rfl (hb hby at_87) rfl kt_) ?_
          refine own_by (T' := T12) (g' := (mkF m 90 #[.val (.int p0), .val (.int p1), .val (.ref t_3), .val (.int sv), .val (.int mv), .val (.int (dqF od_4)), .val (.int (drF od_4)), .unset, .unset, .unset] [(.int (2 : Int32)), (.int mv)])) (fun _ kt_ => XS.iconst X12.here hx rfl (hb hby at_89) kt_) ?_
          by_cases hc38 : mv = (2 : Int32)
          · refine own_by (T' := T12) (g' := (mkF m 93 #[.val (.int p0), .val (.int p1), .val (.ref t_3), .val (.int sv), .val (.int mv), .val (.int (dqF od_4)), .val (.int (drF od_4)), .unset, .unset, .unset] [])) (fun _ kt_ => XS.icmpNo X12.here hx rfl (hb hby at_90) rfl (XT.ii_ne_f hc38) kt_) ?_
            refine own_by (T' := T12) (g' := (mkF m 95 #[.val (.int p0), .val (.int p1), .val (.ref t_3), .val (.int sv), .val (.int mv), .val (.int (dqF od_4)), .val (.int (drF od_4)), .unset, .unset, .unset] [(.int (dqF od_4))])) (fun _ kt_ => XS.iload X12.here hx rfl (hb hby at_93) rfl kt_) ?_
            refine own_by (T' := T12) (g' := (mkF m 96 #[.val (.int p0), .val (.int p1), .val (.ref t_3), .val (.int sv), .val (.int mv), .val (.int (dqF od_4)), .val (.int (drF od_4)), .unset, .unset, .unset] [(.int (-(dqF od_4)))])) (fun _ kt_ => XS.ineg X12.here hx rfl (hb hby at_95) rfl kt_) ?_
            refine own_by (T' := T12) (g' := (mkF m 98 #[.val (.int p0), .val (.int p1), .val (.ref t_3), .val (.int sv), .val (.int mv), .val (.int (dqF od_4)), .val (.int (drF od_4)), .unset, .unset, .unset] [(.int (drF od_4)), (.int (-(dqF od_4)))])) (fun _ kt_ => XS.iload X12.here hx rfl (hb hby at_96) rfl kt_) ?_
            refine own_by (T' := T12) (g' := (mkF m 99 #[.val (.int p0), .val (.int p1), .val (.ref t_3), .val (.int sv), .val (.int mv), .val (.int (dqF od_4)), .val (.int (drF od_4)), .unset, .unset, .unset] [(.int ((-(dqF od_4)) - (drF od_4)))])) (fun _ kt_ => XS.isub X12.here hx rfl (hb hby at_98) rfl kt_) ?_
            refine own_by (T' := T12) (g' := (mkF m 101 #[.val (.int p0), .val (.int p1), .val (.ref t_3), .val (.int sv), .val (.int mv), .val (.int (dqF od_4)), .val (.int (drF od_4)), .val (.int ((-(dqF od_4)) - (drF od_4))), .unset, .unset] [])) (fun _ kt_ => XS.istore X12.here hx rfl (hb hby at_99) rfl (l' := #[.val (.int p0), .val (.int p1), .val (.ref t_3), .val (.int sv), .val (.int mv), .val (.int (dqF od_4)), .val (.int (drF od_4)), .val (.int ((-(dqF od_4)) - (drF od_4))), .unset, .unset]) rfl kt_) ?_
            refine own_by (T' := T12) (g' := (mkF m 103 #[.val (.int p0), .val (.int p1), .val (.ref t_3), .val (.int sv), .val (.int mv), .val (.int (dqF od_4)), .val (.int (drF od_4)), .val (.int ((-(dqF od_4)) - (drF od_4))), .unset, .unset] [(.int (dqF od_4))])) (fun _ kt_ => XS.iload X12.here hx rfl (hb hby at_101) rfl kt_) ?_
            refine own_by (T' := T12) (g' := (mkF m 105 #[.val (.int p0), .val (.int p1), .val (.ref t_3), .val (.int sv), .val (.int mv), .val (.int (dqF od_4)), .val (.int (drF od_4)), .val (.int ((-(dqF od_4)) - (drF od_4))), .val (.int (dqF od_4)), .unset] [])) (fun _ kt_ => XS.istore X12.here hx rfl (hb hby at_103) rfl (l' := #[.val (.int p0), .val (.int p1), .val (.ref t_3), .val (.int sv), .val (.int mv), .val (.int (dqF od_4)), .val (.int (drF od_4)), .val (.int ((-(dqF od_4)) - (drF od_4))), .val (.int (dqF od_4)), .unset]) rfl kt_) ?_
            refine own_by (T' := T12) (g' := (mkF m 160 #[.val (.int p0), .val (.int p1), .val (.ref t_3), .val (.int sv), .val (.int mv), .val (.int (dqF od_4)), .val (.int (drF od_4)), .val (.int ((-(dqF od_4)) - (drF od_4))), .val (.int (dqF od_4)), .unset] [])) (fun _ kt_ => XS.goto X12.here hx rfl (pc0 := 105) (pc' := 160) rfl (hb hby at_105) (by decide) (by decide) kt_) ?_
            refine own_by (T' := T12) (g' := (mkF m 161 #[.val (.int p0), .val (.int p1), .val (.ref t_3), .val (.int sv), .val (.int mv), .val (.int (dqF od_4)), .val (.int (drF od_4)), .val (.int ((-(dqF od_4)) - (drF od_4))), .val (.int (dqF od_4)), .unset] [(.ref t_3)])) (fun _ kt_ => XS.aloadN X12.here hx rfl (hb hby at_160) rfl rfl kt_) ?_
            refine own_by (T' := T12) (g' := (mkF m 162 #[.val (.int p0), .val (.int p1), .val (.ref t_3), .val (.int sv), .val (.int mv), .val (.int (dqF od_4)), .val (.int (drF od_4)), .val (.int ((-(dqF od_4)) - (drF od_4))), .val (.int (dqF od_4)), .unset] [(.int sv), (.ref t_3)])) (fun _ kt_ => XS.iloadN X12.here hx rfl (hb hby at_161) rfl kt_) ?_
            obtain ⟨cq39, kq39, q39a, q39b, q39c⟩ := isOf hZ e12 p2_0
            obtain ⟨_, _, ⟨T39, L39, k39, n39⟩, -, X39, ⟨Lc39, hQ39, l39, y39, z39⟩, st39⟩ := X12.virtualBack hx (y := (⟨"com/example/redoubt/redoubt/core/Direction", "clockwise", "(I)Lcom/example/redoubt/redoubt/core/Direction;"⟩ : MethodName)) (z := (⟨"com/example/redoubt/redoubt/core/Direction", "clockwise", "(I)Lcom/example/redoubt/redoubt/core/Direction;"⟩ : MethodName)) hown (mvT hZ (hw _ (List.mem_of_getElem? (i := 23) rfl))) (mvT hZ (hw _ (List.mem_of_getElem? (i := 24) rfl))) (notFace_of_selects (args := #[]) (mvT hZ (hw _ (List.mem_of_getElem? (i := 26) rfl)))) (mvT hZ (hw _ (List.mem_of_getElem? (i := 26) rfl))) (mvT hZ (hw _ (List.mem_of_getElem? (i := 25) rfl))) (by decide) (backOf (W := 0) (rmCw l Z a0 hw [] w0 w1 w2 w3 w4 w5 wV kV GS t_3 od_4 sv h0 n0 (by omega) O0 p2_0 p2_1) hZ (hw _ (List.mem_of_getElem? (i := 27) rfl)) (hw _ (List.mem_of_getElem? (i := 6) rfl)) (by decide) (by decide)) q39a q39c (g := (mkF m 162 #[.val (.int p0), .val (.int p1), .val (.ref t_3), .val (.int sv), .val (.int mv), .val (.int (dqF od_4)), .val (.int (drF od_4)), .val (.int ((-(dqF od_4)) - (drF od_4))), .val (.int (dqF od_4)), .unset] [(.int sv), (.ref t_3)])) rfl (by rw [hml]; rfl) (Steps.refl _) (argsL := [(.int sv)]) (rest := []) (lenOf own_pd_3 rfl) rfl (by show 2 * 0 + _ ≤ _; exact Nat.le_of_eq rfl) (hb hby at_162) (fun _ _ => ⟨rfl, e12, (by decide : 0 + 1 ≤ _), (by decide : 0 + 6 ≤ _)⟩)
            dsimp only [Pt.U, Pt.locs, Pt.cells, Pt.slots] at X39 l39 y39 z39 st39 hQ39
            subst l39 y39 z39
            obtain ⟨t_40, rfl, N39q, K39, p39_0, p39_1, p39_2⟩ := hQ39
            have N41 := Fr.app N13 N39q
            have zzK39 : h0.size ≤ T39.heap.size := K39.1
            have oo42 : Old Z n0 T39.heap := O0.keep K39 all0
            have kt43 : Keep h0 T39.heap [] := KT0.trans K39 all0
            refine own_by (T' := T39) (g' := (mkF m 165 #[.val (.int p0), .val (.int p1), .val (.ref t_3), .val (.int sv), .val (.int mv), .val (.int (dqF od_4)), .val (.int (drF od_4)), .val (.int ((-(dqF od_4)) - (drF od_4))), .val (.int (dqF od_4)), .unset] [(.ref t_40)])) (fun _ kt_ => st39.trans kt_) ?_
            refine own_by (T' := T39) (g' := (mkF m 167 #[.val (.int p0), .val (.int p1), .val (.ref t_3), .val (.int sv), .val (.int mv), .val (.int (dqF od_4)), .val (.int (drF od_4)), .val (.int ((-(dqF od_4)) - (drF od_4))), .val (.int (dqF od_4)), .val (.ref t_40)] [])) (fun _ kt_ => XS.astore X39.here hx rfl (hb hby at_165) rfl rfl (l' := #[.val (.int p0), .val (.int p1), .val (.ref t_3), .val (.int sv), .val (.int mv), .val (.int (dqF od_4)), .val (.int (drF od_4)), .val (.int ((-(dqF od_4)) - (drF od_4))), .val (.int (dqF od_4)), .val (.ref t_40)]) rfl kt_) ?_
            refine own_by (T' := T39) (g' := (mkF m 169 #[.val (.int p0), .val (.int p1), .val (.ref t_3), .val (.int sv), .val (.int mv), .val (.int (dqF od_4)), .val (.int (drF od_4)), .val (.int ((-(dqF od_4)) - (drF od_4))), .val (.int (dqF od_4)), .val (.ref t_40)] [(.ref t_40)])) (fun _ kt_ => XS.aload X39.here hx rfl (hb hby at_167) rfl rfl kt_) ?_
            refine own_by (T' := T39) (g' := (mkF m 172 #[.val (.int p0), .val (.int p1), .val (.ref t_3), .val (.int sv), .val (.int mv), .val (.int (dqF od_4)), .val (.int (drF od_4)), .val (.int ((-(dqF od_4)) - (drF od_4))), .val (.int (dqF od_4)), .val (.ref t_40)] [])) (fun _ kt_ => XS.ifnullNo X39.here hx rfl (hb hby at_169) rfl kt_) ?_
            refine own_by (T' := T39) (g' := (mkF m 174 #[.val (.int p0), .val (.int p1), .val (.ref t_3), .val (.int sv), .val (.int mv), .val (.int (dqF od_4)), .val (.int (drF od_4)), .val (.int ((-(dqF od_4)) - (drF od_4))), .val (.int (dqF od_4)), .val (.ref t_40)] [(.ref t_40)])) (fun _ kt_ => XS.aload X39.here hx rfl (hb hby at_172) rfl rfl kt_) ?_
            obtain ⟨cq44, kq44, q44a, q44b, q44c⟩ := isOf hZ rfl p39_0
            obtain ⟨_, _, ⟨T44, L44, k44, n44⟩, -, X44, ⟨Lc44, hQ44, l44, y44, z44⟩, st44⟩ := X39.virtualBack hx (y := (⟨"com/example/redoubt/redoubt/core/Direction", "dq", "()I"⟩ : MethodName)) (z := (⟨"com/example/redoubt/redoubt/core/Direction", "dq", "()I"⟩ : MethodName)) hown (mvT hZ (hw _ (List.mem_of_getElem? (i := 9) rfl))) (mvT hZ (hw _ (List.mem_of_getElem? (i := 10) rfl))) (notFace_of_selects (args := #[]) (mvT hZ (hw _ (List.mem_of_getElem? (i := 12) rfl)))) (mvT hZ (hw _ (List.mem_of_getElem? (i := 12) rfl))) (mvT hZ (hw _ (List.mem_of_getElem? (i := 11) rfl))) (by decide) (backOf (W := 0) (rmDq l Z a0 hw [] w0 w1 w2 w3 w4 w5 wV kV GS t_40 (dqF (fmF (od_4 + sv) (6 : Int32))) T39.heap n0 (by omega) oo42 p39_1) hZ (hw _ (List.mem_of_getElem? (i := 13) rfl)) (hw _ (List.mem_of_getElem? (i := 6) rfl)) (by decide) (by decide)) q44a q44c (g := (mkF m 174 #[.val (.int p0), .val (.int p1), .val (.ref t_3), .val (.int sv), .val (.int mv), .val (.int (dqF od_4)), .val (.int (drF od_4)), .val (.int ((-(dqF od_4)) - (drF od_4))), .val (.int (dqF od_4)), .val (.ref t_40)] [(.ref t_40)])) rfl (by rw [hml]; rfl) (Steps.refl _) (argsL := []) (rest := []) (lenOf own_pd_1 rfl) rfl (by show 2 * 0 + _ ≤ _; exact Nat.le_of_eq rfl) (hb hby at_174) (fun _ _ => ⟨rfl, rfl, (by decide : 1 + 0 ≤ _), (by decide : 6 + 0 ≤ _)⟩)
            dsimp only [Pt.U, Pt.locs, Pt.cells, Pt.slots] at X44 l44 y44 z44 st44 hQ44
            subst l44 y44 z44
            obtain ⟨rfl, N44q, e44⟩ := hQ44
            have N45 := Fr.app N41 N44q
            refine own_by (T' := T44) (g' := (mkF m 177 #[.val (.int p0), .val (.int p1), .val (.ref t_3), .val (.int sv), .val (.int mv), .val (.int (dqF od_4)), .val (.int (drF od_4)), .val (.int ((-(dqF od_4)) - (drF od_4))), .val (.int (dqF od_4)), .val (.ref t_40)] [(.int (dqF (fmF (od_4 + sv) (6 : Int32))))])) (fun _ kt_ => st44.trans kt_) ?_
            refine own_by (T' := T44) (g' := (mkF m 179 #[.val (.int p0), .val (.int p1), .val (.ref t_3), .val (.int sv), .val (.int mv), .val (.int (dqF od_4)), .val (.int (drF od_4)), .val (.int ((-(dqF od_4)) - (drF od_4))), .val (.int (dqF od_4)), .val (.ref t_40)] [(.int ((-(dqF od_4)) - (drF od_4))), (.int (dqF (fmF (od_4 + sv) (6 : Int32))))])) (fun _ kt_ => XS.iload X44.here hx rfl (hb hby at_177) rfl kt_) ?_
            refine own_by (T' := T44) (g' := (mkF m 182 #[.val (.int p0), .val (.int p1), .val (.ref t_3), .val (.int sv), .val (.int mv), .val (.int (dqF od_4)), .val (.int (drF od_4)), .val (.int ((-(dqF od_4)) - (drF od_4))), .val (.int (dqF od_4)), .val (.ref t_40)] [])) (fun _ kt_ => XS.icmpNo X44.here hx rfl (hb hby at_179) rfl (XT.ii_ne_f ((own_law od_4 sv mv p2_4 hj7 hj9).2.2.1 hc38).1) kt_) ?_
            refine own_by (T' := T44) (g' := (mkF m 184 #[.val (.int p0), .val (.int p1), .val (.ref t_3), .val (.int sv), .val (.int mv), .val (.int (dqF od_4)), .val (.int (drF od_4)), .val (.int ((-(dqF od_4)) - (drF od_4))), .val (.int (dqF od_4)), .val (.ref t_40)] [(.ref t_40)])) (fun _ kt_ => XS.aload X44.here hx rfl (hb hby at_182) rfl rfl kt_) ?_
            obtain ⟨cq46, kq46, q46a, q46b, q46c⟩ := isOf hZ e44 p39_0
            obtain ⟨_, _, ⟨T46, L46, k46, n46⟩, -, X46, ⟨Lc46, hQ46, l46, y46, z46⟩, st46⟩ := X44.virtualBack hx (y := (⟨"com/example/redoubt/redoubt/core/Direction", "dr", "()I"⟩ : MethodName)) (z := (⟨"com/example/redoubt/redoubt/core/Direction", "dr", "()I"⟩ : MethodName)) hown (mvT hZ (hw _ (List.mem_of_getElem? (i := 16) rfl))) (mvT hZ (hw _ (List.mem_of_getElem? (i := 17) rfl))) (notFace_of_selects (args := #[]) (mvT hZ (hw _ (List.mem_of_getElem? (i := 19) rfl)))) (mvT hZ (hw _ (List.mem_of_getElem? (i := 19) rfl))) (mvT hZ (hw _ (List.mem_of_getElem? (i := 18) rfl))) (by decide) (backOf (W := 0) (rmDr l Z a0 hw [] w0 w1 w2 w3 w4 w5 wV kV GS t_40 (drF (fmF (od_4 + sv) (6 : Int32))) T39.heap n0 (by omega) oo42 p39_2) hZ (hw _ (List.mem_of_getElem? (i := 20) rfl)) (hw _ (List.mem_of_getElem? (i := 6) rfl)) (by decide) (by decide)) q46a q46c (g := (mkF m 184 #[.val (.int p0), .val (.int p1), .val (.ref t_3), .val (.int sv), .val (.int mv), .val (.int (dqF od_4)), .val (.int (drF od_4)), .val (.int ((-(dqF od_4)) - (drF od_4))), .val (.int (dqF od_4)), .val (.ref t_40)] [(.ref t_40)])) rfl (by rw [hml]; rfl) (Steps.refl _) (argsL := []) (rest := []) (lenOf own_pd_1 rfl) rfl (by show 2 * 0 + _ ≤ _; exact Nat.le_of_eq rfl) (hb hby at_184) (fun _ _ => ⟨rfl, e44, (by decide : 1 + 0 ≤ _), (by decide : 6 + 0 ≤ _)⟩)
            dsimp only [Pt.U, Pt.locs, Pt.cells, Pt.slots] at X46 l46 y46 z46 st46 hQ46
            subst l46 y46 z46
            obtain ⟨rfl, N46q, e46⟩ := hQ46
            have N47 := Fr.app N45 N46q
            refine own_by (T' := T46) (g' := (mkF m 187 #[.val (.int p0), .val (.int p1), .val (.ref t_3), .val (.int sv), .val (.int mv), .val (.int (dqF od_4)), .val (.int (drF od_4)), .val (.int ((-(dqF od_4)) - (drF od_4))), .val (.int (dqF od_4)), .val (.ref t_40)] [(.int (drF (fmF (od_4 + sv) (6 : Int32))))])) (fun _ kt_ => st46.trans kt_) ?_
            refine own_by (T' := T46) (g' := (mkF m 189 #[.val (.int p0), .val (.int p1), .val (.ref t_3), .val (.int sv), .val (.int mv), .val (.int (dqF od_4)), .val (.int (drF od_4)), .val (.int ((-(dqF od_4)) - (drF od_4))), .val (.int (dqF od_4)), .val (.ref t_40)] [(.int (dqF od_4)), (.int (drF (fmF (od_4 + sv) (6 : Int32))))])) (fun _ kt_ => XS.iload X46.here hx rfl (hb hby at_187) rfl kt_) ?_
            refine own_by (T' := T46) (g' := (mkF m 192 #[.val (.int p0), .val (.int p1), .val (.ref t_3), .val (.int sv), .val (.int mv), .val (.int (dqF od_4)), .val (.int (drF od_4)), .val (.int ((-(dqF od_4)) - (drF od_4))), .val (.int (dqF od_4)), .val (.ref t_40)] [])) (fun _ kt_ => XS.icmpNo X46.here hx rfl (hb hby at_189) rfl (XT.ii_ne_f ((own_law od_4 sv mv p2_4 hj7 hj9).2.2.1 hc38).2) kt_) ?_
            refine own_by (T' := T46) (g' := (mkF m 193 #[.val (.int p0), .val (.int p1), .val (.ref t_3), .val (.int sv), .val (.int mv), .val (.int (dqF od_4)), .val (.int (drF od_4)), .val (.int ((-(dqF od_4)) - (drF od_4))), .val (.int (dqF od_4)), .val (.ref t_40)] [(.int (1 : Int32))])) (fun _ kt_ => XS.iconst X46.here hx rfl (hb hby at_192) kt_) ?_
            refine own_by (T' := T46) (g' := (mkF m 197 #[.val (.int p0), .val (.int p1), .val (.ref t_3), .val (.int sv), .val (.int mv), .val (.int (dqF od_4)), .val (.int (drF od_4)), .val (.int ((-(dqF od_4)) - (drF od_4))), .val (.int (dqF od_4)), .val (.ref t_40)] [(.int (1 : Int32))])) (fun _ kt_ => XS.goto X46.here hx rfl (pc0 := 193) (pc' := 197) rfl (hb hby at_193) (by decide) (by decide) kt_) ?_
            have hn48 : nar .boolean (1 : Int32) = (1 : Int32) := rfl
            obtain ⟨fs49, hr49, hrun49, hended49, hW49, hsame49⟩ := X46.leave (v := some (.int (nar .boolean (1 : Int32)))) (fun h => by rw [Bd.returns] at h; cases h)
            refine ⟨_, _, retN X46 hx (t := .boolean) Bd.returns (by simp) (hb hby at_197) hr49, hrun49, hended49, _, _, rfl, ?_, ⟨_, rfl⟩, hW49, hsame49.mono (by decide) (by decide)⟩
            show Q_rm0 Z w0 w1 w2 w3 w4 w5 wV kV p0 p1 h0 n0 _ T46.heap _
            exact ⟨(congrArg (fun z => some (Value.int z)) hn48), N47⟩
          · refine own_by (T' := T12) (g' := (mkF m 108 #[.val (.int p0), .val (.int p1), .val (.ref t_3), .val (.int sv), .val (.int mv), .val (.int (dqF od_4)), .val (.int (drF od_4)), .unset, .unset, .unset] [])) (fun _ kt_ => XS.icmpYes X12.here hx rfl (pc0 := 90) (pc' := 108) rfl (hb hby at_90) rfl (XT.ii_ne_t hc38) (by decide) (by decide) kt_) ?_
            refine own_by (T' := T12) (g' := (mkF m 110 #[.val (.int p0), .val (.int p1), .val (.ref t_3), .val (.int sv), .val (.int mv), .val (.int (dqF od_4)), .val (.int (drF od_4)), .unset, .unset, .unset] [(.int mv)])) (fun _ kt_ => XS.iload X12.here hx rfl (hb hby at_108) rfl kt_) ?_
            refine own_by (T' := T12) (g' := (mkF m 111 #[.val (.int p0), .val (.int p1), .val (.ref t_3), .val (.int sv), .val (.int mv), .val (.int (dqF od_4)), .val (.int (drF od_4)), .unset, .unset, .unset] [(.int (3 : Int32)), (.int mv)])) (fun _ kt_ => XS.iconst X12.here hx rfl (hb hby at_110) kt_) ?_
            by_cases hc50 : mv = (3 : Int32)
            · refine own_by (T' := T12) (g' := (mkF m 114 #[.val (.int p0), .val (.int p1), .val (.ref t_3), .val (.int sv), .val (.int mv), .val (.int (dqF od_4)), .val (.int (drF od_4)), .unset, .unset, .unset] [])) (fun _ kt_ => XS.icmpNo X12.here hx rfl (hb hby at_111) rfl (XT.ii_ne_f hc50) kt_) ?_
              refine own_by (T' := T12) (g' := (mkF m 116 #[.val (.int p0), .val (.int p1), .val (.ref t_3), .val (.int sv), .val (.int mv), .val (.int (dqF od_4)), .val (.int (drF od_4)), .unset, .unset, .unset] [(.int (dqF od_4))])) (fun _ kt_ => XS.iload X12.here hx rfl (hb hby at_114) rfl kt_) ?_
              refine own_by (T' := T12) (g' := (mkF m 117 #[.val (.int p0), .val (.int p1), .val (.ref t_3), .val (.int sv), .val (.int mv), .val (.int (dqF od_4)), .val (.int (drF od_4)), .unset, .unset, .unset] [(.int (-(dqF od_4)))])) (fun _ kt_ => XS.ineg X12.here hx rfl (hb hby at_116) rfl kt_) ?_
              refine own_by (T' := T12) (g' := (mkF m 119 #[.val (.int p0), .val (.int p1), .val (.ref t_3), .val (.int sv), .val (.int mv), .val (.int (dqF od_4)), .val (.int (drF od_4)), .val (.int (-(dqF od_4))), .unset, .unset] [])) (fun _ kt_ => XS.istore X12.here hx rfl (hb hby at_117) rfl (l' := #[.val (.int p0), .val (.int p1), .val (.ref t_3), .val (.int sv), .val (.int mv), .val (.int (dqF od_4)), .val (.int (drF od_4)), .val (.int (-(dqF od_4))), .unset, .unset]) rfl kt_) ?_
              refine own_by (T' := T12) (g' := (mkF m 121 #[.val (.int p0), .val (.int p1), .val (.ref t_3), .val (.int sv), .val (.int mv), .val (.int (dqF od_4)), .val (.int (drF od_4)), .val (.int (-(dqF od_4))), .unset, .unset] [(.int (drF od_4))])) (fun _ kt_ => XS.iload X12.here hx rfl (hb hby at_119) rfl kt_) ?_
              refine own_by (T' := T12) (g' := (mkF m 122 #[.val (.int p0), .val (.int p1), .val (.ref t_3), .val (.int sv), .val (.int mv), .val (.int (dqF od_4)), .val (.int (drF od_4)), .val (.int (-(dqF od_4))), .unset, .unset] [(.int (-(drF od_4)))])) (fun _ kt_ => XS.ineg X12.here hx rfl (hb hby at_121) rfl kt_) ?_
              refine own_by (T' := T12) (g' := (mkF m 124 #[.val (.int p0), .val (.int p1), .val (.ref t_3), .val (.int sv), .val (.int mv), .val (.int (dqF od_4)), .val (.int (drF od_4)), .val (.int (-(dqF od_4))), .val (.int (-(drF od_4))), .unset] [])) (fun _ kt_ => XS.istore X12.here hx rfl (hb hby at_122) rfl (l' := #[.val (.int p0), .val (.int p1), .val (.ref t_3), .val (.int sv), .val (.int mv), .val (.int (dqF od_4)), .val (.int (drF od_4)), .val (.int (-(dqF od_4))), .val (.int (-(drF od_4))), .unset]) rfl kt_) ?_
              refine own_by (T' := T12) (g' := (mkF m 160 #[.val (.int p0), .val (.int p1), .val (.ref t_3), .val (.int sv), .val (.int mv), .val (.int (dqF od_4)), .val (.int (drF od_4)), .val (.int (-(dqF od_4))), .val (.int (-(drF od_4))), .unset] [])) (fun _ kt_ => XS.goto X12.here hx rfl (pc0 := 124) (pc' := 160) rfl (hb hby at_124) (by decide) (by decide) kt_) ?_
              refine own_by (T' := T12) (g' := (mkF m 161 #[.val (.int p0), .val (.int p1), .val (.ref t_3), .val (.int sv), .val (.int mv), .val (.int (dqF od_4)), .val (.int (drF od_4)), .val (.int (-(dqF od_4))), .val (.int (-(drF od_4))), .unset] [(.ref t_3)])) (fun _ kt_ => XS.aloadN X12.here hx rfl (hb hby at_160) rfl rfl kt_) ?_
              refine own_by (T' := T12) (g' := (mkF m 162 #[.val (.int p0), .val (.int p1), .val (.ref t_3), .val (.int sv), .val (.int mv), .val (.int (dqF od_4)), .val (.int (drF od_4)), .val (.int (-(dqF od_4))), .val (.int (-(drF od_4))), .unset] [(.int sv), (.ref t_3)])) (fun _ kt_ => XS.iloadN X12.here hx rfl (hb hby at_161) rfl kt_) ?_
              obtain ⟨cq51, kq51, q51a, q51b, q51c⟩ := isOf hZ e12 p2_0
              obtain ⟨_, _, ⟨T51, L51, k51, n51⟩, -, X51, ⟨Lc51, hQ51, l51, y51, z51⟩, st51⟩ := X12.virtualBack hx (y := (⟨"com/example/redoubt/redoubt/core/Direction", "clockwise", "(I)Lcom/example/redoubt/redoubt/core/Direction;"⟩ : MethodName)) (z := (⟨"com/example/redoubt/redoubt/core/Direction", "clockwise", "(I)Lcom/example/redoubt/redoubt/core/Direction;"⟩ : MethodName)) hown (mvT hZ (hw _ (List.mem_of_getElem? (i := 23) rfl))) (mvT hZ (hw _ (List.mem_of_getElem? (i := 24) rfl))) (notFace_of_selects (args := #[]) (mvT hZ (hw _ (List.mem_of_getElem? (i := 26) rfl)))) (mvT hZ (hw _ (List.mem_of_getElem? (i := 26) rfl))) (mvT hZ (hw _ (List.mem_of_getElem? (i := 25) rfl))) (by decide) (backOf (W := 0) (rmCw l Z a0 hw [] w0 w1 w2 w3 w4 w5 wV kV GS t_3 od_4 sv h0 n0 (by omega) O0 p2_0 p2_1) hZ (hw _ (List.mem_of_getElem? (i := 27) rfl)) (hw _ (List.mem_of_getElem? (i := 6) rfl)) (by decide) (by decide)) q51a q51c (g := (mkF m 162 #[.val (.int p0), .val (.int p1), .val (.ref t_3), .val (.int sv), .val (.int mv), .val (.int (dqF od_4)), .val (.int (drF od_4)), .val (.int (-(dqF od_4))), .val (.int (-(drF od_4))), .unset] [(.int sv), (.ref t_3)])) rfl (by rw [hml]; rfl) (Steps.refl _) (argsL := [(.int sv)]) (rest := []) (lenOf own_pd_3 rfl) rfl (by show 2 * 0 + _ ≤ _; exact Nat.le_of_eq rfl) (hb hby at_162) (fun _ _ => ⟨rfl, e12, (by decide : 0 + 1 ≤ _), (by decide : 0 + 6 ≤ _)⟩)
              dsimp only [Pt.U, Pt.locs, Pt.cells, Pt.slots] at X51 l51 y51 z51 st51 hQ51
              subst l51 y51 z51
              obtain ⟨t_52, rfl, N51q, K51, p51_0, p51_1, p51_2⟩ := hQ51
              have N53 := Fr.app N13 N51q
              have zzK51 : h0.size ≤ T51.heap.size := K51.1
              have oo54 : Old Z n0 T51.heap := O0.keep K51 all0
              have kt55 : Keep h0 T51.heap [] := KT0.trans K51 all0
              refine own_by (T' := T51) (g' := (mkF m 165 #[.val (.int p0), .val (.int p1), .val (.ref t_3), .val (.int sv), .val (.int mv), .val (.int (dqF od_4)), .val (.int (drF od_4)), .val (.int (-(dqF od_4))), .val (.int (-(drF od_4))), .unset] [(.ref t_52)])) (fun _ kt_ => st51.trans kt_) ?_
              refine own_by (T' := T51) (g' := (mkF m 167 #[.val (.int p0), .val (.int p1), .val (.ref t_3), .val (.int sv), .val (.int mv), .val (.int (dqF od_4)), .val (.int (drF od_4)), .val (.int (-(dqF od_4))), .val (.int (-(drF od_4))), .val (.ref t_52)] [])) (fun _ kt_ => XS.astore X51.here hx rfl (hb hby at_165) rfl rfl (l' := #[.val (.int p0), .val (.int p1), .val (.ref t_3), .val (.int sv), .val (.int mv), .val (.int (dqF od_4)), .val (.int (drF od_4)), .val (.int (-(dqF od_4))), .val (.int (-(drF od_4))), .val (.ref t_52)]) rfl kt_) ?_
              refine own_by (T' := T51) (g' := (mkF m 169 #[.val (.int p0), .val (.int p1), .val (.ref t_3), .val (.int sv), .val (.int mv), .val (.int (dqF od_4)), .val (.int (drF od_4)), .val (.int (-(dqF od_4))), .val (.int (-(drF od_4))), .val (.ref t_52)] [(.ref t_52)])) (fun _ kt_ => XS.aload X51.here hx rfl (hb hby at_167) rfl rfl kt_) ?_
              refine own_by (T' := T51) (g' := (mkF m 172 #[.val (.int p0), .val (.int p1), .val (.ref t_3), .val (.int sv), .val (.int mv), .val (.int (dqF od_4)), .val (.int (drF od_4)), .val (.int (-(dqF od_4))), .val (.int (-(drF od_4))), .val (.ref t_52)] [])) (fun _ kt_ => XS.ifnullNo X51.here hx rfl (hb hby at_169) rfl kt_) ?_
              refine own_by (T' := T51) (g' := (mkF m 174 #[.val (.int p0), .val (.int p1), .val (.ref t_3), .val (.int sv), .val (.int mv), .val (.int (dqF od_4)), .val (.int (drF od_4)), .val (.int (-(dqF od_4))), .val (.int (-(drF od_4))), .val (.ref t_52)] [(.ref t_52)])) (fun _ kt_ => XS.aload X51.here hx rfl (hb hby at_172) rfl rfl kt_) ?_
              obtain ⟨cq56, kq56, q56a, q56b, q56c⟩ := isOf hZ rfl p51_0
              obtain ⟨_, _, ⟨T56, L56, k56, n56⟩, -, X56, ⟨Lc56, hQ56, l56, y56, z56⟩, st56⟩ := X51.virtualBack hx (y := (⟨"com/example/redoubt/redoubt/core/Direction", "dq", "()I"⟩ : MethodName)) (z := (⟨"com/example/redoubt/redoubt/core/Direction", "dq", "()I"⟩ : MethodName)) hown (mvT hZ (hw _ (List.mem_of_getElem? (i := 9) rfl))) (mvT hZ (hw _ (List.mem_of_getElem? (i := 10) rfl))) (notFace_of_selects (args := #[]) (mvT hZ (hw _ (List.mem_of_getElem? (i := 12) rfl)))) (mvT hZ (hw _ (List.mem_of_getElem? (i := 12) rfl))) (mvT hZ (hw _ (List.mem_of_getElem? (i := 11) rfl))) (by decide) (backOf (W := 0) (rmDq l Z a0 hw [] w0 w1 w2 w3 w4 w5 wV kV GS t_52 (dqF (fmF (od_4 + sv) (6 : Int32))) T51.heap n0 (by omega) oo54 p51_1) hZ (hw _ (List.mem_of_getElem? (i := 13) rfl)) (hw _ (List.mem_of_getElem? (i := 6) rfl)) (by decide) (by decide)) q56a q56c (g := (mkF m 174 #[.val (.int p0), .val (.int p1), .val (.ref t_3), .val (.int sv), .val (.int mv), .val (.int (dqF od_4)), .val (.int (drF od_4)), .val (.int (-(dqF od_4))), .val (.int (-(drF od_4))), .val (.ref t_52)] [(.ref t_52)])) rfl (by rw [hml]; rfl) (Steps.refl _) (argsL := []) (rest := []) (lenOf own_pd_1 rfl) rfl (by show 2 * 0 + _ ≤ _; exact Nat.le_of_eq rfl) (hb hby at_174) (fun _ _ => ⟨rfl, rfl, (by decide : 1 + 0 ≤ _), (by decide : 6 + 0 ≤ _)⟩)
              dsimp only [Pt.U, Pt.locs, Pt.cells, Pt.slots] at X56 l56 y56 z56 st56 hQ56
              subst l56 y56 z56
              obtain ⟨rfl, N56q, e56⟩ := hQ56
              have N57 := Fr.app N53 N56q
              refine own_by (T' := T56) (g' := (mkF m 177 #[.val (.int p0), .val (.int p1), .val (.ref t_3), .val (.int sv), .val (.int mv), .val (.int (dqF od_4)), .val (.int (drF od_4)), .val (.int (-(dqF od_4))), .val (.int (-(drF od_4))), .val (.ref t_52)] [(.int (dqF (fmF (od_4 + sv) (6 : Int32))))])) (fun _ kt_ => st56.trans kt_) ?_
              refine own_by (T' := T56) (g' := (mkF m 179 #[.val (.int p0), .val (.int p1), .val (.ref t_3), .val (.int sv), .val (.int mv), .val (.int (dqF od_4)), .val (.int (drF od_4)), .val (.int (-(dqF od_4))), .val (.int (-(drF od_4))), .val (.ref t_52)] [(.int (-(dqF od_4))), (.int (dqF (fmF (od_4 + sv) (6 : Int32))))])) (fun _ kt_ => XS.iload X56.here hx rfl (hb hby at_177) rfl kt_) ?_
              refine own_by (T' := T56) (g' := (mkF m 182 #[.val (.int p0), .val (.int p1), .val (.ref t_3), .val (.int sv), .val (.int mv), .val (.int (dqF od_4)), .val (.int (drF od_4)), .val (.int (-(dqF od_4))), .val (.int (-(drF od_4))), .val (.ref t_52)] [])) (fun _ kt_ => XS.icmpNo X56.here hx rfl (hb hby at_179) rfl (XT.ii_ne_f ((own_law od_4 sv mv p2_4 hj7 hj9).2.2.2.1 hc50).1) kt_) ?_
              refine own_by (T' := T56) (g' := (mkF m 184 #[.val (.int p0), .val (.int p1), .val (.ref t_3), .val (.int sv), .val (.int mv), .val (.int (dqF od_4)), .val (.int (drF od_4)), .val (.int (-(dqF od_4))), .val (.int (-(drF od_4))), .val (.ref t_52)] [(.ref t_52)])) (fun _ kt_ => XS.aload X56.here hx rfl (hb hby at_182) rfl rfl kt_) ?_
              obtain ⟨cq58, kq58, q58a, q58b, q58c⟩ := isOf hZ e56 p51_0
              obtain ⟨_, _, ⟨T58, L58, k58, n58⟩, -, X58, ⟨Lc58, hQ58, l58, y58, z58⟩, st58⟩ := X56.virtualBack hx (y := (⟨"com/example/redoubt/redoubt/core/Direction", "dr", "()I"⟩ : MethodName)) (z := (⟨"com/example/redoubt/redoubt/core/Direction", "dr", "()I"⟩ : MethodName)) hown (mvT hZ (hw _ (List.mem_of_getElem? (i := 16) rfl))) (mvT hZ (hw _ (List.mem_of_getElem? (i := 17) rfl))) (notFace_of_selects (args := #[]) (mvT hZ (hw _ (List.mem_of_getElem? (i := 19) rfl)))) (mvT hZ (hw _ (List.mem_of_getElem? (i := 19) rfl))) (mvT hZ (hw _ (List.mem_of_getElem? (i := 18) rfl))) (by decide) (backOf (W := 0) (rmDr l Z a0 hw [] w0 w1 w2 w3 w4 w5 wV kV GS t_52 (drF (fmF (od_4 + sv) (6 : Int32))) T51.heap n0 (by omega) oo54 p51_2) hZ (hw _ (List.mem_of_getElem? (i := 20) rfl)) (hw _ (List.mem_of_getElem? (i := 6) rfl)) (by decide) (by decide)) q58a q58c (g := (mkF m 184 #[.val (.int p0), .val (.int p1), .val (.ref t_3), .val (.int sv), .val (.int mv), .val (.int (dqF od_4)), .val (.int (drF od_4)), .val (.int (-(dqF od_4))), .val (.int (-(drF od_4))), .val (.ref t_52)] [(.ref t_52)])) rfl (by rw [hml]; rfl) (Steps.refl _) (argsL := []) (rest := []) (lenOf own_pd_1 rfl) rfl (by show 2 * 0 + _ ≤ _; exact Nat.le_of_eq rfl) (hb hby at_184) (fun _ _ => ⟨rfl, e56, (by decide : 1 + 0 ≤ _), (by decide : 6 + 0 ≤ _)⟩)
              dsimp only [Pt.U, Pt.locs, Pt.cells, Pt.slots] at X58 l58 y58 z58 st58 hQ58
              subst l58 y58 z58
              obtain ⟨rfl, N58q, e58⟩ := hQ58
              have N59 := Fr.app N57 N58q
              refine own_by (T' := T58) (g' := (mkF m 187 #[.val (.int p0), .val (.int p1), .val (.ref t_3), .val (.int sv), .val (.int mv), .val (.int (dqF od_4)), .val (.int (drF od_4)), .val (.int (-(dqF od_4))), .val (.int (-(drF od_4))), .val (.ref t_52)] [(.int (drF (fmF (od_4 + sv) (6 : Int32))))])) (fun _ kt_ => st58.trans kt_) ?_
              refine own_by (T' := T58) (g' := (mkF m 189 #[.val (.int p0), .val (.int p1), .val (.ref t_3), .val (.int sv), .val (.int mv), .val (.int (dqF od_4)), .val (.int (drF od_4)), .val (.int (-(dqF od_4))), .val (.int (-(drF od_4))), .val (.ref t_52)] [(.int (-(drF od_4))), (.int (drF (fmF (od_4 + sv) (6 : Int32))))])) (fun _ kt_ => XS.iload X58.here hx rfl (hb hby at_187) rfl kt_) ?_
              refine own_by (T' := T58) (g' := (mkF m 192 #[.val (.int p0), .val (.int p1), .val (.ref t_3), .val (.int sv), .val (.int mv), .val (.int (dqF od_4)), .val (.int (drF od_4)), .val (.int (-(dqF od_4))), .val (.int (-(drF od_4))), .val (.ref t_52)] [])) (fun _ kt_ => XS.icmpNo X58.here hx rfl (hb hby at_189) rfl (XT.ii_ne_f ((own_law od_4 sv mv p2_4 hj7 hj9).2.2.2.1 hc50).2) kt_) ?_
              refine own_by (T' := T58) (g' := (mkF m 193 #[.val (.int p0), .val (.int p1), .val (.ref t_3), .val (.int sv), .val (.int mv), .val (.int (dqF od_4)), .val (.int (drF od_4)), .val (.int (-(dqF od_4))), .val (.int (-(drF od_4))), .val (.ref t_52)] [(.int (1 : Int32))])) (fun _ kt_ => XS.iconst X58.here hx rfl (hb hby at_192) kt_) ?_
              refine own_by (T' := T58) (g' := (mkF m 197 #[.val (.int p0), .val (.int p1), .val (.ref t_3), .val (.int sv), .val (.int mv), .val (.int (dqF od_4)), .val (.int (drF od_4)), .val (.int (-(dqF od_4))), .val (.int (-(drF od_4))), .val (.ref t_52)] [(.int (1 : Int32))])) (fun _ kt_ => XS.goto X58.here hx rfl (pc0 := 193) (pc' := 197) rfl (hb hby at_193) (by decide) (by decide) kt_) ?_
              have hn60 : nar .boolean (1 : Int32) = (1 : Int32) := rfl
              obtain ⟨fs61, hr61, hrun61, hended61, hW61, hsame61⟩ := X58.leave (v := some (.int (nar .boolean (1 : Int32)))) (fun h => by rw [Bd.returns] at h; cases h)
              refine ⟨_, _, retN X58 hx (t := .boolean) Bd.returns (by simp) (hb hby at_197) hr61, hrun61, hended61, _, _, rfl, ?_, ⟨_, rfl⟩, hW61, hsame61.mono (by decide) (by decide)⟩
              show Q_rm0 Z w0 w1 w2 w3 w4 w5 wV kV p0 p1 h0 n0 _ T58.heap _
              exact ⟨(congrArg (fun z => some (Value.int z)) hn60), N59⟩
            · refine own_by (T' := T12) (g' := (mkF m 127 #[.val (.int p0), .val (.int p1), .val (.ref t_3), .val (.int sv), .val (.int mv), .val (.int (dqF od_4)), .val (.int (drF od_4)), .unset, .unset, .unset] [])) (fun _ kt_ => XS.icmpYes X12.here hx rfl (pc0 := 111) (pc' := 127) rfl (hb hby at_111) rfl (XT.ii_ne_t hc50) (by decide) (by decide) kt_) ?_
              refine own_by (T' := T12) (g' := (mkF m 129 #[.val (.int p0), .val (.int p1), .val (.ref t_3), .val (.int sv), .val (.int mv), .val (.int (dqF od_4)), .val (.int (drF od_4)), .unset, .unset, .unset] [(.int mv)])) (fun _ kt_ => XS.iload X12.here hx rfl (hb hby at_127) rfl kt_) ?_
              refine own_by (T' := T12) (g' := (mkF m 130 #[.val (.int p0), .val (.int p1), .val (.ref t_3), .val (.int sv), .val (.int mv), .val (.int (dqF od_4)), .val (.int (drF od_4)), .unset, .unset, .unset] [(.int (4 : Int32)), (.int mv)])) (fun _ kt_ => XS.iconst X12.here hx rfl (hb hby at_129) kt_) ?_
              by_cases hc62 : mv = (4 : Int32)
              · refine own_by (T' := T12) (g' := (mkF m 133 #[.val (.int p0), .val (.int p1), .val (.ref t_3), .val (.int sv), .val (.int mv), .val (.int (dqF od_4)), .val (.int (drF od_4)), .unset, .unset, .unset] [])) (fun _ kt_ => XS.icmpNo X12.here hx rfl (hb hby at_130) rfl (XT.ii_ne_f hc62) kt_) ?_
                refine own_by (T' := T12) (g' := (mkF m 135 #[.val (.int p0), .val (.int p1), .val (.ref t_3), .val (.int sv), .val (.int mv), .val (.int (dqF od_4)), .val (.int (drF od_4)), .unset, .unset, .unset] [(.int (drF od_4))])) (fun _ kt_ => XS.iload X12.here hx rfl (hb hby at_133) rfl kt_) ?_
                refine own_by (T' := T12) (g' := (mkF m 137 #[.val (.int p0), .val (.int p1), .val (.ref t_3), .val (.int sv), .val (.int mv), .val (.int (dqF od_4)), .val (.int (drF od_4)), .val (.int (drF od_4)), .unset, .unset] [])) (fun _ kt_ => XS.istore X12.here hx rfl (hb hby at_135) rfl (l' := #[.val (.int p0), .val (.int p1), .val (.ref t_3), .val (.int sv), .val (.int mv), .val (.int (dqF od_4)), .val (.int (drF od_4)), .val (.int (drF od_4)), .unset, .unset]) rfl kt_) ?_
                refine own_by (T' := T12) (g' := (mkF m 139 #[.val (.int p0), .val (.int p1), .val (.ref t_3), .val (.int sv), .val (.int mv), .val (.int (dqF od_4)), .val (.int (drF od_4)), .val (.int (drF od_4)), .unset, .unset] [(.int (dqF od_4))])) (fun _ kt_ => XS.iload X12.here hx rfl (hb hby at_137) rfl kt_) ?_
                refine own_by (T' := T12) (g' := (mkF m 140 #[.val (.int p0), .val (.int p1), .val (.ref t_3), .val (.int sv), .val (.int mv), .val (.int (dqF od_4)), .val (.int (drF od_4)), .val (.int (drF od_4)), .unset, .unset] [(.int (-(dqF od_4)))])) (fun _ kt_ => XS.ineg X12.here hx rfl (hb hby at_139) rfl kt_) ?_
                refine own_by (T' := T12) (g' := (mkF m 142 #[.val (.int p0), .val (.int p1), .val (.ref t_3), .val (.int sv), .val (.int mv), .val (.int (dqF od_4)), .val (.int (drF od_4)), .val (.int (drF od_4)), .unset, .unset] [(.int (drF od_4)), (.int (-(dqF od_4)))])) (fun _ kt_ => XS.iload X12.here hx rfl (hb hby at_140) rfl kt_) ?_
                refine own_by (T' := T12) (g' := (mkF m 143 #[.val (.int p0), .val (.int p1), .val (.ref t_3), .val (.int sv), .val (.int mv), .val (.int (dqF od_4)), .val (.int (drF od_4)), .val (.int (drF od_4)), .unset, .unset] [(.int ((-(dqF od_4)) - (drF od_4)))])) (fun _ kt_ => XS.isub X12.here hx rfl (hb hby at_142) rfl kt_) ?_
                refine own_by (T' := T12) (g' := (mkF m 145 #[.val (.int p0), .val (.int p1), .val (.ref t_3), .val (.int sv), .val (.int mv), .val (.int (dqF od_4)), .val (.int (drF od_4)), .val (.int (drF od_4)), .val (.int ((-(dqF od_4)) - (drF od_4))), .unset] [])) (fun _ kt_ => XS.istore X12.here hx rfl (hb hby at_143) rfl (l' := #[.val (.int p0), .val (.int p1), .val (.ref t_3), .val (.int sv), .val (.int mv), .val (.int (dqF od_4)), .val (.int (drF od_4)), .val (.int (drF od_4)), .val (.int ((-(dqF od_4)) - (drF od_4))), .unset]) rfl kt_) ?_
                refine own_by (T' := T12) (g' := (mkF m 160 #[.val (.int p0), .val (.int p1), .val (.ref t_3), .val (.int sv), .val (.int mv), .val (.int (dqF od_4)), .val (.int (drF od_4)), .val (.int (drF od_4)), .val (.int ((-(dqF od_4)) - (drF od_4))), .unset] [])) (fun _ kt_ => XS.goto X12.here hx rfl (pc0 := 145) (pc' := 160) rfl (hb hby at_145) (by decide) (by decide) kt_) ?_
                refine own_by (T' := T12) (g' := (mkF m 161 #[.val (.int p0), .val (.int p1), .val (.ref t_3), .val (.int sv), .val (.int mv), .val (.int (dqF od_4)), .val (.int (drF od_4)), .val (.int (drF od_4)), .val (.int ((-(dqF od_4)) - (drF od_4))), .unset] [(.ref t_3)])) (fun _ kt_ => XS.aloadN X12.here hx rfl (hb hby at_160) rfl rfl kt_) ?_
                refine own_by (T' := T12) (g' := (mkF m 162 #[.val (.int p0), .val (.int p1), .val (.ref t_3), .val (.int sv), .val (.int mv), .val (.int (dqF od_4)), .val (.int (drF od_4)), .val (.int (drF od_4)), .val (.int ((-(dqF od_4)) - (drF od_4))), .unset] [(.int sv), (.ref t_3)])) (fun _ kt_ => XS.iloadN X12.here hx rfl (hb hby at_161) rfl kt_) ?_
                obtain ⟨cq63, kq63, q63a, q63b, q63c⟩ := isOf hZ e12 p2_0
                obtain ⟨_, _, ⟨T63, L63, k63, n63⟩, -, X63, ⟨Lc63, hQ63, l63, y63, z63⟩, st63⟩ := X12.virtualBack hx (y := (⟨"com/example/redoubt/redoubt/core/Direction", "clockwise", "(I)Lcom/example/redoubt/redoubt/core/Direction;"⟩ : MethodName)) (z := (⟨"com/example/redoubt/redoubt/core/Direction", "clockwise", "(I)Lcom/example/redoubt/redoubt/core/Direction;"⟩ : MethodName)) hown (mvT hZ (hw _ (List.mem_of_getElem? (i := 23) rfl))) (mvT hZ (hw _ (List.mem_of_getElem? (i := 24) rfl))) (notFace_of_selects (args := #[]) (mvT hZ (hw _ (List.mem_of_getElem? (i := 26) rfl)))) (mvT hZ (hw _ (List.mem_of_getElem? (i := 26) rfl))) (mvT hZ (hw _ (List.mem_of_getElem? (i := 25) rfl))) (by decide) (backOf (W := 0) (rmCw l Z a0 hw [] w0 w1 w2 w3 w4 w5 wV kV GS t_3 od_4 sv h0 n0 (by omega) O0 p2_0 p2_1) hZ (hw _ (List.mem_of_getElem? (i := 27) rfl)) (hw _ (List.mem_of_getElem? (i := 6) rfl)) (by decide) (by decide)) q63a q63c (g := (mkF m 162 #[.val (.int p0), .val (.int p1), .val (.ref t_3), .val (.int sv), .val (.int mv), .val (.int (dqF od_4)), .val (.int (drF od_4)), .val (.int (drF od_4)), .val (.int ((-(dqF od_4)) - (drF od_4))), .unset] [(.int sv), (.ref t_3)])) rfl (by rw [hml]; rfl) (Steps.refl _) (argsL := [(.int sv)]) (rest := []) (lenOf own_pd_3 rfl) rfl (by show 2 * 0 + _ ≤ _; exact Nat.le_of_eq rfl) (hb hby at_162) (fun _ _ => ⟨rfl, e12, (by decide : 0 + 1 ≤ _), (by decide : 0 + 6 ≤ _)⟩)
                dsimp only [Pt.U, Pt.locs, Pt.cells, Pt.slots] at X63 l63 y63 z63 st63 hQ63
                subst l63 y63 z63
                obtain ⟨t_64, rfl, N63q, K63, p63_0, p63_1, p63_2⟩ := hQ63
                have N65 := Fr.app N13 N63q
                have zzK63 : h0.size ≤ T63.heap.size := K63.1
                have oo66 : Old Z n0 T63.heap := O0.keep K63 all0
                have kt67 : Keep h0 T63.heap [] := KT0.trans K63 all0
                refine own_by (T' := T63) (g' := (mkF m 165 #[.val (.int p0), .val (.int p1), .val (.ref t_3), .val (.int sv), .val (.int mv), .val (.int (dqF od_4)), .val (.int (drF od_4)), .val (.int (drF od_4)), .val (.int ((-(dqF od_4)) - (drF od_4))), .unset] [(.ref t_64)])) (fun _ kt_ => st63.trans kt_) ?_
                refine own_by (T' := T63) (g' := (mkF m 167 #[.val (.int p0), .val (.int p1), .val (.ref t_3), .val (.int sv), .val (.int mv), .val (.int (dqF od_4)), .val (.int (drF od_4)), .val (.int (drF od_4)), .val (.int ((-(dqF od_4)) - (drF od_4))), .val (.ref t_64)] [])) (fun _ kt_ => XS.astore X63.here hx rfl (hb hby at_165) rfl rfl (l' := #[.val (.int p0), .val (.int p1), .val (.ref t_3), .val (.int sv), .val (.int mv), .val (.int (dqF od_4)), .val (.int (drF od_4)), .val (.int (drF od_4)), .val (.int ((-(dqF od_4)) - (drF od_4))), .val (.ref t_64)]) rfl kt_) ?_
                refine own_by (T' := T63) (g' := (mkF m 169 #[.val (.int p0), .val (.int p1), .val (.ref t_3), .val (.int sv), .val (.int mv), .val (.int (dqF od_4)), .val (.int (drF od_4)), .val (.int (drF od_4)), .val (.int ((-(dqF od_4)) - (drF od_4))), .val (.ref t_64)] [(.ref t_64)])) (fun _ kt_ => XS.aload X63.here hx rfl (hb hby at_167) rfl rfl kt_) ?_
                refine own_by (T' := T63) (g' := (mkF m 172 #[.val (.int p0), .val (.int p1), .val (.ref t_3), .val (.int sv), .val (.int mv), .val (.int (dqF od_4)), .val (.int (drF od_4)), .val (.int (drF od_4)), .val (.int ((-(dqF od_4)) - (drF od_4))), .val (.ref t_64)] [])) (fun _ kt_ => XS.ifnullNo X63.here hx rfl (hb hby at_169) rfl kt_) ?_
                refine own_by (T' := T63) (g' := (mkF m 174 #[.val (.int p0), .val (.int p1), .val (.ref t_3), .val (.int sv), .val (.int mv), .val (.int (dqF od_4)), .val (.int (drF od_4)), .val (.int (drF od_4)), .val (.int ((-(dqF od_4)) - (drF od_4))), .val (.ref t_64)] [(.ref t_64)])) (fun _ kt_ => XS.aload X63.here hx rfl (hb hby at_172) rfl rfl kt_) ?_
                obtain ⟨cq68, kq68, q68a, q68b, q68c⟩ := isOf hZ rfl p63_0
                obtain ⟨_, _, ⟨T68, L68, k68, n68⟩, -, X68, ⟨Lc68, hQ68, l68, y68, z68⟩, st68⟩ := X63.virtualBack hx (y := (⟨"com/example/redoubt/redoubt/core/Direction", "dq", "()I"⟩ : MethodName)) (z := (⟨"com/example/redoubt/redoubt/core/Direction", "dq", "()I"⟩ : MethodName)) hown (mvT hZ (hw _ (List.mem_of_getElem? (i := 9) rfl))) (mvT hZ (hw _ (List.mem_of_getElem? (i := 10) rfl))) (notFace_of_selects (args := #[]) (mvT hZ (hw _ (List.mem_of_getElem? (i := 12) rfl)))) (mvT hZ (hw _ (List.mem_of_getElem? (i := 12) rfl))) (mvT hZ (hw _ (List.mem_of_getElem? (i := 11) rfl))) (by decide) (backOf (W := 0) (rmDq l Z a0 hw [] w0 w1 w2 w3 w4 w5 wV kV GS t_64 (dqF (fmF (od_4 + sv) (6 : Int32))) T63.heap n0 (by omega) oo66 p63_1) hZ (hw _ (List.mem_of_getElem? (i := 13) rfl)) (hw _ (List.mem_of_getElem? (i := 6) rfl)) (by decide) (by decide)) q68a q68c (g := (mkF m 174 #[.val (.int p0), .val (.int p1), .val (.ref t_3), .val (.int sv), .val (.int mv), .val (.int (dqF od_4)), .val (.int (drF od_4)), .val (.int (drF od_4)), .val (.int ((-(dqF od_4)) - (drF od_4))), .val (.ref t_64)] [(.ref t_64)])) rfl (by rw [hml]; rfl) (Steps.refl _) (argsL := []) (rest := []) (lenOf own_pd_1 rfl) rfl (by show 2 * 0 + _ ≤ _; exact Nat.le_of_eq rfl) (hb hby at_174) (fun _ _ => ⟨rfl, rfl, (by decide : 1 + 0 ≤ _), (by decide : 6 + 0 ≤ _)⟩)
                dsimp only [Pt.U, Pt.locs, Pt.cells, Pt.slots] at X68 l68 y68 z68 st68 hQ68
                subst l68 y68 z68
                obtain ⟨rfl, N68q, e68⟩ := hQ68
                have N69 := Fr.app N65 N68q
                refine own_by (T' := T68) (g' := (mkF m 177 #[.val (.int p0), .val (.int p1), .val (.ref t_3), .val (.int sv), .val (.int mv), .val (.int (dqF od_4)), .val (.int (drF od_4)), .val (.int (drF od_4)), .val (.int ((-(dqF od_4)) - (drF od_4))), .val (.ref t_64)] [(.int (dqF (fmF (od_4 + sv) (6 : Int32))))])) (fun _ kt_ => st68.trans kt_) ?_
                refine own_by (T' := T68) (g' := (mkF m 179 #[.val (.int p0), .val (.int p1), .val (.ref t_3), .val (.int sv), .val (.int mv), .val (.int (dqF od_4)), .val (.int (drF od_4)), .val (.int (drF od_4)), .val (.int ((-(dqF od_4)) - (drF od_4))), .val (.ref t_64)] [(.int (drF od_4)), (.int (dqF (fmF (od_4 + sv) (6 : Int32))))])) (fun _ kt_ => XS.iload X68.here hx rfl (hb hby at_177) rfl kt_) ?_
                refine own_by (T' := T68) (g' := (mkF m 182 #[.val (.int p0), .val (.int p1), .val (.ref t_3), .val (.int sv), .val (.int mv), .val (.int (dqF od_4)), .val (.int (drF od_4)), .val (.int (drF od_4)), .val (.int ((-(dqF od_4)) - (drF od_4))), .val (.ref t_64)] [])) (fun _ kt_ => XS.icmpNo X68.here hx rfl (hb hby at_179) rfl (XT.ii_ne_f ((own_law od_4 sv mv p2_4 hj7 hj9).2.2.2.2.1 hc62).1) kt_) ?_
                refine own_by (T' := T68) (g' := (mkF m 184 #[.val (.int p0), .val (.int p1), .val (.ref t_3), .val (.int sv), .val (.int mv), .val (.int (dqF od_4)), .val (.int (drF od_4)), .val (.int (drF od_4)), .val (.int ((-(dqF od_4)) - (drF od_4))), .val (.ref t_64)] [(.ref t_64)])) (fun _ kt_ => XS.aload X68.here hx rfl (hb hby at_182) rfl rfl kt_) ?_
                obtain ⟨cq70, kq70, q70a, q70b, q70c⟩ := isOf hZ e68 p63_0
                obtain ⟨_, _, ⟨T70, L70, k70, n70⟩, -, X70, ⟨Lc70, hQ70, l70, y70, z70⟩, st70⟩ := X68.virtualBack hx (y := (⟨"com/example/redoubt/redoubt/core/Direction", "dr", "()I"⟩ : MethodName)) (z := (⟨"com/example/redoubt/redoubt/core/Direction", "dr", "()I"⟩ : MethodName)) hown (mvT hZ (hw _ (List.mem_of_getElem? (i := 16) rfl))) (mvT hZ (hw _ (List.mem_of_getElem? (i := 17) rfl))) (notFace_of_selects (args := #[]) (mvT hZ (hw _ (List.mem_of_getElem? (i := 19) rfl)))) (mvT hZ (hw _ (List.mem_of_getElem? (i := 19) rfl))) (mvT hZ (hw _ (List.mem_of_getElem? (i := 18) rfl))) (by decide) (backOf (W := 0) (rmDr l Z a0 hw [] w0 w1 w2 w3 w4 w5 wV kV GS t_64 (drF (fmF (od_4 + sv) (6 : Int32))) T63.heap n0 (by omega) oo66 p63_2) hZ (hw _ (List.mem_of_getElem? (i := 20) rfl)) (hw _ (List.mem_of_getElem? (i := 6) rfl)) (by decide) (by decide)) q70a q70c (g := (mkF m 184 #[.val (.int p0), .val (.int p1), .val (.ref t_3), .val (.int sv), .val (.int mv), .val (.int (dqF od_4)), .val (.int (drF od_4)), .val (.int (drF od_4)), .val (.int ((-(dqF od_4)) - (drF od_4))), .val (.ref t_64)] [(.ref t_64)])) rfl (by rw [hml]; rfl) (Steps.refl _) (argsL := []) (rest := []) (lenOf own_pd_1 rfl) rfl (by show 2 * 0 + _ ≤ _; exact Nat.le_of_eq rfl) (hb hby at_184) (fun _ _ => ⟨rfl, e68, (by decide : 1 + 0 ≤ _), (by decide : 6 + 0 ≤ _)⟩)
                dsimp only [Pt.U, Pt.locs, Pt.cells, Pt.slots] at X70 l70 y70 z70 st70 hQ70
                subst l70 y70 z70
                obtain ⟨rfl, N70q, e70⟩ := hQ70
                have N71 := Fr.app N69 N70q
                refine own_by (T' := T70) (g' := (mkF m 187 #[.val (.int p0), .val (.int p1), .val (.ref t_3), .val (.int sv), .val (.int mv), .val (.int (dqF od_4)), .val (.int (drF od_4)), .val (.int (drF od_4)), .val (.int ((-(dqF od_4)) - (drF od_4))), .val (.ref t_64)] [(.int (drF (fmF (od_4 + sv) (6 : Int32))))])) (fun _ kt_ => st70.trans kt_) ?_
                refine own_by (T' := T70) (g' := (mkF m 189 #[.val (.int p0), .val (.int p1), .val (.ref t_3), .val (.int sv), .val (.int mv), .val (.int (dqF od_4)), .val (.int (drF od_4)), .val (.int (drF od_4)), .val (.int ((-(dqF od_4)) - (drF od_4))), .val (.ref t_64)] [(.int ((-(dqF od_4)) - (drF od_4))), (.int (drF (fmF (od_4 + sv) (6 : Int32))))])) (fun _ kt_ => XS.iload X70.here hx rfl (hb hby at_187) rfl kt_) ?_
                refine own_by (T' := T70) (g' := (mkF m 192 #[.val (.int p0), .val (.int p1), .val (.ref t_3), .val (.int sv), .val (.int mv), .val (.int (dqF od_4)), .val (.int (drF od_4)), .val (.int (drF od_4)), .val (.int ((-(dqF od_4)) - (drF od_4))), .val (.ref t_64)] [])) (fun _ kt_ => XS.icmpNo X70.here hx rfl (hb hby at_189) rfl (XT.ii_ne_f ((own_law od_4 sv mv p2_4 hj7 hj9).2.2.2.2.1 hc62).2) kt_) ?_
                refine own_by (T' := T70) (g' := (mkF m 193 #[.val (.int p0), .val (.int p1), .val (.ref t_3), .val (.int sv), .val (.int mv), .val (.int (dqF od_4)), .val (.int (drF od_4)), .val (.int (drF od_4)), .val (.int ((-(dqF od_4)) - (drF od_4))), .val (.ref t_64)] [(.int (1 : Int32))])) (fun _ kt_ => XS.iconst X70.here hx rfl (hb hby at_192) kt_) ?_
                refine own_by (T' := T70) (g' := (mkF m 197 #[.val (.int p0), .val (.int p1), .val (.ref t_3), .val (.int sv), .val (.int mv), .val (.int (dqF od_4)), .val (.int (drF od_4)), .val (.int (drF od_4)), .val (.int ((-(dqF od_4)) - (drF od_4))), .val (.ref t_64)] [(.int (1 : Int32))])) (fun _ kt_ => XS.goto X70.here hx rfl (pc0 := 193) (pc' := 197) rfl (hb hby at_193) (by decide) (by decide) kt_) ?_
                have hn72 : nar .boolean (1 : Int32) = (1 : Int32) := rfl
                obtain ⟨fs73, hr73, hrun73, hended73, hW73, hsame73⟩ := X70.leave (v := some (.int (nar .boolean (1 : Int32)))) (fun h => by rw [Bd.returns] at h; cases h)
                refine ⟨_, _, retN X70 hx (t := .boolean) Bd.returns (by simp) (hb hby at_197) hr73, hrun73, hended73, _, _, rfl, ?_, ⟨_, rfl⟩, hW73, hsame73.mono (by decide) (by decide)⟩
                show Q_rm0 Z w0 w1 w2 w3 w4 w5 wV kV p0 p1 h0 n0 _ T70.heap _
                exact ⟨(congrArg (fun z => some (Value.int z)) hn72), N71⟩
              · refine own_by (T' := T12) (g' := (mkF m 148 #[.val (.int p0), .val (.int p1), .val (.ref t_3), .val (.int sv), .val (.int mv), .val (.int (dqF od_4)), .val (.int (drF od_4)), .unset, .unset, .unset] [])) (fun _ kt_ => XS.icmpYes X12.here hx rfl (pc0 := 130) (pc' := 148) rfl (hb hby at_130) rfl (XT.ii_ne_t hc62) (by decide) (by decide) kt_) ?_
                refine own_by (T' := T12) (g' := (mkF m 150 #[.val (.int p0), .val (.int p1), .val (.ref t_3), .val (.int sv), .val (.int mv), .val (.int (dqF od_4)), .val (.int (drF od_4)), .unset, .unset, .unset] [(.int (dqF od_4))])) (fun _ kt_ => XS.iload X12.here hx rfl (hb hby at_148) rfl kt_) ?_
                refine own_by (T' := T12) (g' := (mkF m 152 #[.val (.int p0), .val (.int p1), .val (.ref t_3), .val (.int sv), .val (.int mv), .val (.int (dqF od_4)), .val (.int (drF od_4)), .unset, .unset, .unset] [(.int (drF od_4)), (.int (dqF od_4))])) (fun _ kt_ => XS.iload X12.here hx rfl (hb hby at_150) rfl kt_) ?_
                refine own_by (T' := T12) (g' := (mkF m 153 #[.val (.int p0), .val (.int p1), .val (.ref t_3), .val (.int sv), .val (.int mv), .val (.int (dqF od_4)), .val (.int (drF od_4)), .unset, .unset, .unset] [(.int ((dqF od_4) + (drF od_4)))])) (fun _ kt_ => XS.iadd X12.here hx rfl (hb hby at_152) rfl kt_) ?_
                refine own_by (T' := T12) (g' := (mkF m 155 #[.val (.int p0), .val (.int p1), .val (.ref t_3), .val (.int sv), .val (.int mv), .val (.int (dqF od_4)), .val (.int (drF od_4)), .val (.int ((dqF od_4) + (drF od_4))), .unset, .unset] [])) (fun _ kt_ => XS.istore X12.here hx rfl (hb hby at_153) rfl (l' := #[.val (.int p0), .val (.int p1), .val (.ref t_3), .val (.int sv), .val (.int mv), .val (.int (dqF od_4)), .val (.int (drF od_4)), .val (.int ((dqF od_4) + (drF od_4))), .unset, .unset]) rfl kt_) ?_
                refine own_by (T' := T12) (g' := (mkF m 157 #[.val (.int p0), .val (.int p1), .val (.ref t_3), .val (.int sv), .val (.int mv), .val (.int (dqF od_4)), .val (.int (drF od_4)), .val (.int ((dqF od_4) + (drF od_4))), .unset, .unset] [(.int (dqF od_4))])) (fun _ kt_ => XS.iload X12.here hx rfl (hb hby at_155) rfl kt_) ?_
                refine own_by (T' := T12) (g' := (mkF m 158 #[.val (.int p0), .val (.int p1), .val (.ref t_3), .val (.int sv), .val (.int mv), .val (.int (dqF od_4)), .val (.int (drF od_4)), .val (.int ((dqF od_4) + (drF od_4))), .unset, .unset] [(.int (-(dqF od_4)))])) (fun _ kt_ => XS.ineg X12.here hx rfl (hb hby at_157) rfl kt_) ?_
                refine own_by (T' := T12) (g' := (mkF m 160 #[.val (.int p0), .val (.int p1), .val (.ref t_3), .val (.int sv), .val (.int mv), .val (.int (dqF od_4)), .val (.int (drF od_4)), .val (.int ((dqF od_4) + (drF od_4))), .val (.int (-(dqF od_4))), .unset] [])) (fun _ kt_ => XS.istore X12.here hx rfl (hb hby at_158) rfl (l' := #[.val (.int p0), .val (.int p1), .val (.ref t_3), .val (.int sv), .val (.int mv), .val (.int (dqF od_4)), .val (.int (drF od_4)), .val (.int ((dqF od_4) + (drF od_4))), .val (.int (-(dqF od_4))), .unset]) rfl kt_) ?_
                refine own_by (T' := T12) (g' := (mkF m 161 #[.val (.int p0), .val (.int p1), .val (.ref t_3), .val (.int sv), .val (.int mv), .val (.int (dqF od_4)), .val (.int (drF od_4)), .val (.int ((dqF od_4) + (drF od_4))), .val (.int (-(dqF od_4))), .unset] [(.ref t_3)])) (fun _ kt_ => XS.aloadN X12.here hx rfl (hb hby at_160) rfl rfl kt_) ?_
                refine own_by (T' := T12) (g' := (mkF m 162 #[.val (.int p0), .val (.int p1), .val (.ref t_3), .val (.int sv), .val (.int mv), .val (.int (dqF od_4)), .val (.int (drF od_4)), .val (.int ((dqF od_4) + (drF od_4))), .val (.int (-(dqF od_4))), .unset] [(.int sv), (.ref t_3)])) (fun _ kt_ => XS.iloadN X12.here hx rfl (hb hby at_161) rfl kt_) ?_
                obtain ⟨cq74, kq74, q74a, q74b, q74c⟩ := isOf hZ e12 p2_0
                obtain ⟨_, _, ⟨T74, L74, k74, n74⟩, -, X74, ⟨Lc74, hQ74, l74, y74, z74⟩, st74⟩ := X12.virtualBack hx (y := (⟨"com/example/redoubt/redoubt/core/Direction", "clockwise", "(I)Lcom/example/redoubt/redoubt/core/Direction;"⟩ : MethodName)) (z := (⟨"com/example/redoubt/redoubt/core/Direction", "clockwise", "(I)Lcom/example/redoubt/redoubt/core/Direction;"⟩ : MethodName)) hown (mvT hZ (hw _ (List.mem_of_getElem? (i := 23) rfl))) (mvT hZ (hw _ (List.mem_of_getElem? (i := 24) rfl))) (notFace_of_selects (args := #[]) (mvT hZ (hw _ (List.mem_of_getElem? (i := 26) rfl)))) (mvT hZ (hw _ (List.mem_of_getElem? (i := 26) rfl))) (mvT hZ (hw _ (List.mem_of_getElem? (i := 25) rfl))) (by decide) (backOf (W := 0) (rmCw l Z a0 hw [] w0 w1 w2 w3 w4 w5 wV kV GS t_3 od_4 sv h0 n0 (by omega) O0 p2_0 p2_1) hZ (hw _ (List.mem_of_getElem? (i := 27) rfl)) (hw _ (List.mem_of_getElem? (i := 6) rfl)) (by decide) (by decide)) q74a q74c (g := (mkF m 162 #[.val (.int p0), .val (.int p1), .val (.ref t_3), .val (.int sv), .val (.int mv), .val (.int (dqF od_4)), .val (.int (drF od_4)), .val (.int ((dqF od_4) + (drF od_4))), .val (.int (-(dqF od_4))), .unset] [(.int sv), (.ref t_3)])) rfl (by rw [hml]; rfl) (Steps.refl _) (argsL := [(.int sv)]) (rest := []) (lenOf own_pd_3 rfl) rfl (by show 2 * 0 + _ ≤ _; exact Nat.le_of_eq rfl) (hb hby at_162) (fun _ _ => ⟨rfl, e12, (by decide : 0 + 1 ≤ _), (by decide : 0 + 6 ≤ _)⟩)
                dsimp only [Pt.U, Pt.locs, Pt.cells, Pt.slots] at X74 l74 y74 z74 st74 hQ74
                subst l74 y74 z74
                obtain ⟨t_75, rfl, N74q, K74, p74_0, p74_1, p74_2⟩ := hQ74
                have N76 := Fr.app N13 N74q
                have zzK74 : h0.size ≤ T74.heap.size := K74.1
                have oo77 : Old Z n0 T74.heap := O0.keep K74 all0
                have kt78 : Keep h0 T74.heap [] := KT0.trans K74 all0
                refine own_by (T' := T74) (g' := (mkF m 165 #[.val (.int p0), .val (.int p1), .val (.ref t_3), .val (.int sv), .val (.int mv), .val (.int (dqF od_4)), .val (.int (drF od_4)), .val (.int ((dqF od_4) + (drF od_4))), .val (.int (-(dqF od_4))), .unset] [(.ref t_75)])) (fun _ kt_ => st74.trans kt_) ?_
                refine own_by (T' := T74) (g' := (mkF m 167 #[.val (.int p0), .val (.int p1), .val (.ref t_3), .val (.int sv), .val (.int mv), .val (.int (dqF od_4)), .val (.int (drF od_4)), .val (.int ((dqF od_4) + (drF od_4))), .val (.int (-(dqF od_4))), .val (.ref t_75)] [])) (fun _ kt_ => XS.astore X74.here hx rfl (hb hby at_165) rfl rfl (l' := #[.val (.int p0), .val (.int p1), .val (.ref t_3), .val (.int sv), .val (.int mv), .val (.int (dqF od_4)), .val (.int (drF od_4)), .val (.int ((dqF od_4) + (drF od_4))), .val (.int (-(dqF od_4))), .val (.ref t_75)]) rfl kt_) ?_
                refine own_by (T' := T74) (g' := (mkF m 169 #[.val (.int p0), .val (.int p1), .val (.ref t_3), .val (.int sv), .val (.int mv), .val (.int (dqF od_4)), .val (.int (drF od_4)), .val (.int ((dqF od_4) + (drF od_4))), .val (.int (-(dqF od_4))), .val (.ref t_75)] [(.ref t_75)])) (fun _ kt_ => XS.aload X74.here hx rfl (hb hby at_167) rfl rfl kt_) ?_
                refine own_by (T' := T74) (g' := (mkF m 172 #[.val (.int p0), .val (.int p1), .val (.ref t_3), .val (.int sv), .val (.int mv), .val (.int (dqF od_4)), .val (.int (drF od_4)), .val (.int ((dqF od_4) + (drF od_4))), .val (.int (-(dqF od_4))), .val (.ref t_75)] [])) (fun _ kt_ => XS.ifnullNo X74.here hx rfl (hb hby at_169) rfl kt_) ?_
                refine own_by (T' := T74) (g' := (mkF m 174 #[.val (.int p0), .val (.int p1), .val (.ref t_3), .val (.int sv), .val (.int mv), .val (.int (dqF od_4)), .val (.int (drF od_4)), .val (.int ((dqF od_4) + (drF od_4))), .val (.int (-(dqF od_4))), .val (.ref t_75)] [(.ref t_75)])) (fun _ kt_ => XS.aload X74.here hx rfl (hb hby at_172) rfl rfl kt_) ?_
                obtain ⟨cq79, kq79, q79a, q79b, q79c⟩ := isOf hZ rfl p74_0
                obtain ⟨_, _, ⟨T79, L79, k79, n79⟩, -, X79, ⟨Lc79, hQ79, l79, y79, z79⟩, st79⟩ := X74.virtualBack hx (y := (⟨"com/example/redoubt/redoubt/core/Direction", "dq", "()I"⟩ : MethodName)) (z := (⟨"com/example/redoubt/redoubt/core/Direction", "dq", "()I"⟩ : MethodName)) hown (mvT hZ (hw _ (List.mem_of_getElem? (i := 9) rfl))) (mvT hZ (hw _ (List.mem_of_getElem? (i := 10) rfl))) (notFace_of_selects (args := #[]) (mvT hZ (hw _ (List.mem_of_getElem? (i := 12) rfl)))) (mvT hZ (hw _ (List.mem_of_getElem? (i := 12) rfl))) (mvT hZ (hw _ (List.mem_of_getElem? (i := 11) rfl))) (by decide) (backOf (W := 0) (rmDq l Z a0 hw [] w0 w1 w2 w3 w4 w5 wV kV GS t_75 (dqF (fmF (od_4 + sv) (6 : Int32))) T74.heap n0 (by omega) oo77 p74_1) hZ (hw _ (List.mem_of_getElem? (i := 13) rfl)) (hw _ (List.mem_of_getElem? (i := 6) rfl)) (by decide) (by decide)) q79a q79c (g := (mkF m 174 #[.val (.int p0), .val (.int p1), .val (.ref t_3), .val (.int sv), .val (.int mv), .val (.int (dqF od_4)), .val (.int (drF od_4)), .val (.int ((dqF od_4) + (drF od_4))), .val (.int (-(dqF od_4))), .val (.ref t_75)] [(.ref t_75)])) rfl (by rw [hml]; rfl) (Steps.refl _) (argsL := []) (rest := []) (lenOf own_pd_1 rfl) rfl (by show 2 * 0 + _ ≤ _; exact Nat.le_of_eq rfl) (hb hby at_174) (fun _ _ => ⟨rfl, rfl, (by decide : 1 + 0 ≤ _), (by decide : 6 + 0 ≤ _)⟩)
                dsimp only [Pt.U, Pt.locs, Pt.cells, Pt.slots] at X79 l79 y79 z79 st79 hQ79
                subst l79 y79 z79
                obtain ⟨rfl, N79q, e79⟩ := hQ79
                have N80 := Fr.app N76 N79q
                refine own_by (T' := T79) (g' := (mkF m 177 #[.val (.int p0), .val (.int p1), .val (.ref t_3), .val (.int sv), .val (.int mv), .val (.int (dqF od_4)), .val (.int (drF od_4)), .val (.int ((dqF od_4) + (drF od_4))), .val (.int (-(dqF od_4))), .val (.ref t_75)] [(.int (dqF (fmF (od_4 + sv) (6 : Int32))))])) (fun _ kt_ => st79.trans kt_) ?_
                refine own_by (T' := T79) (g' := (mkF m 179 #[.val (.int p0), .val (.int p1), .val (.ref t_3), .val (.int sv), .val (.int mv), .val (.int (dqF od_4)), .val (.int (drF od_4)), .val (.int ((dqF od_4) + (drF od_4))), .val (.int (-(dqF od_4))), .val (.ref t_75)] [(.int ((dqF od_4) + (drF od_4))), (.int (dqF (fmF (od_4 + sv) (6 : Int32))))])) (fun _ kt_ => XS.iload X79.here hx rfl (hb hby at_177) rfl kt_) ?_
                refine own_by (T' := T79) (g' := (mkF m 182 #[.val (.int p0), .val (.int p1), .val (.ref t_3), .val (.int sv), .val (.int mv), .val (.int (dqF od_4)), .val (.int (drF od_4)), .val (.int ((dqF od_4) + (drF od_4))), .val (.int (-(dqF od_4))), .val (.ref t_75)] [])) (fun _ kt_ => XS.icmpNo X79.here hx rfl (hb hby at_179) rfl (XT.ii_ne_f ((own_law od_4 sv mv p2_4 hj7 hj9).2.2.2.2.2 (by rcases own_six mv ⟨hj9.1, hj9.2.1⟩ with q | q | q | q | q | q <;> first | exact q | (exact absurd q (by assumption)))).1) kt_) ?_
                refine own_by (T' := T79) (g' := (mkF m 184 #[.val (.int p0), .val (.int p1), .val (.ref t_3), .val (.int sv), .val (.int mv), .val (.int (dqF od_4)), .val (.int (drF od_4)), .val (.int ((dqF od_4) + (drF od_4))), .val (.int (-(dqF od_4))), .val (.ref t_75)] [(.ref t_75)])) (fun _ kt_ => XS.aload X79.here hx rfl (hb hby at_182) rfl rfl kt_) ?_
                obtain ⟨cq81, kq81, q81a, q81b, q81c⟩ := isOf hZ e79 p74_0
                obtain ⟨_, _, ⟨T81, L81, k81, n81⟩, -, X81, ⟨Lc81, hQ81, l81, y81, z81⟩, st81⟩ := X79.virtualBack hx (y := (⟨"com/example/redoubt/redoubt/core/Direction", "dr", "()I"⟩ : MethodName)) (z := (⟨"com/example/redoubt/redoubt/core/Direction", "dr", "()I"⟩ : MethodName)) hown (mvT hZ (hw _ (List.mem_of_getElem? (i := 16) rfl))) (mvT hZ (hw _ (List.mem_of_getElem? (i := 17) rfl))) (notFace_of_selects (args := #[]) (mvT hZ (hw _ (List.mem_of_getElem? (i := 19) rfl)))) (mvT hZ (hw _ (List.mem_of_getElem? (i := 19) rfl))) (mvT hZ (hw _ (List.mem_of_getElem? (i := 18) rfl))) (by decide) (backOf (W := 0) (rmDr l Z a0 hw [] w0 w1 w2 w3 w4 w5 wV kV GS t_75 (drF (fmF (od_4 + sv) (6 : Int32))) T74.heap n0 (by omega) oo77 p74_2) hZ (hw _ (List.mem_of_getElem? (i := 20) rfl)) (hw _ (List.mem_of_getElem? (i := 6) rfl)) (by decide) (by decide)) q81a q81c (g := (mkF m 184 #[.val (.int p0), .val (.int p1), .val (.ref t_3), .val (.int sv), .val (.int mv), .val (.int (dqF od_4)), .val (.int (drF od_4)), .val (.int ((dqF od_4) + (drF od_4))), .val (.int (-(dqF od_4))), .val (.ref t_75)] [(.ref t_75)])) rfl (by rw [hml]; rfl) (Steps.refl _) (argsL := []) (rest := []) (lenOf own_pd_1 rfl) rfl (by show 2 * 0 + _ ≤ _; exact Nat.le_of_eq rfl) (hb hby at_184) (fun _ _ => ⟨rfl, e79, (by decide : 1 + 0 ≤ _), (by decide : 6 + 0 ≤ _)⟩)
                dsimp only [Pt.U, Pt.locs, Pt.cells, Pt.slots] at X81 l81 y81 z81 st81 hQ81
                subst l81 y81 z81
                obtain ⟨rfl, N81q, e81⟩ := hQ81
                have N82 := Fr.app N80 N81q
                refine own_by (T' := T81) (g' := (mkF m 187 #[.val (.int p0), .val (.int p1), .val (.ref t_3), .val (.int sv), .val (.int mv), .val (.int (dqF od_4)), .val (.int (drF od_4)), .val (.int ((dqF od_4) + (drF od_4))), .val (.int (-(dqF od_4))), .val (.ref t_75)] [(.int (drF (fmF (od_4 + sv) (6 : Int32))))])) (fun _ kt_ => st81.trans kt_) ?_
                refine own_by (T' := T81) (g' := (mkF m 189 #[.val (.int p0), .val (.int p1), .val (.ref t_3), .val (.int sv), .val (.int mv), .val (.int (dqF od_4)), .val (.int (drF od_4)), .val (.int ((dqF od_4) + (drF od_4))), .val (.int (-(dqF od_4))), .val (.ref t_75)] [(.int (-(dqF od_4))), (.int (drF (fmF (od_4 + sv) (6 : Int32))))])) (fun _ kt_ => XS.iload X81.here hx rfl (hb hby at_187) rfl kt_) ?_
                refine own_by (T' := T81) (g' := (mkF m 192 #[.val (.int p0), .val (.int p1), .val (.ref t_3), .val (.int sv), .val (.int mv), .val (.int (dqF od_4)), .val (.int (drF od_4)), .val (.int ((dqF od_4) + (drF od_4))), .val (.int (-(dqF od_4))), .val (.ref t_75)] [])) (fun _ kt_ => XS.icmpNo X81.here hx rfl (hb hby at_189) rfl (XT.ii_ne_f ((own_law od_4 sv mv p2_4 hj7 hj9).2.2.2.2.2 (by rcases own_six mv ⟨hj9.1, hj9.2.1⟩ with q | q | q | q | q | q <;> first | exact q | (exact absurd q (by assumption)))).2) kt_) ?_
                refine own_by (T' := T81) (g' := (mkF m 193 #[.val (.int p0), .val (.int p1), .val (.ref t_3), .val (.int sv), .val (.int mv), .val (.int (dqF od_4)), .val (.int (drF od_4)), .val (.int ((dqF od_4) + (drF od_4))), .val (.int (-(dqF od_4))), .val (.ref t_75)] [(.int (1 : Int32))])) (fun _ kt_ => XS.iconst X81.here hx rfl (hb hby at_192) kt_) ?_
                refine own_by (T' := T81) (g' := (mkF m 197 #[.val (.int p0), .val (.int p1), .val (.ref t_3), .val (.int sv), .val (.int mv), .val (.int (dqF od_4)), .val (.int (drF od_4)), .val (.int ((dqF od_4) + (drF od_4))), .val (.int (-(dqF od_4))), .val (.ref t_75)] [(.int (1 : Int32))])) (fun _ kt_ => XS.goto X81.here hx rfl (pc0 := 193) (pc' := 197) rfl (hb hby at_193) (by decide) (by decide) kt_) ?_
                have hn83 : nar .boolean (1 : Int32) = (1 : Int32) := rfl
                obtain ⟨fs84, hr84, hrun84, hended84, hW84, hsame84⟩ := X81.leave (v := some (.int (nar .boolean (1 : Int32)))) (fun h => by rw [Bd.returns] at h; cases h)
                refine ⟨_, _, retN X81 hx (t := .boolean) Bd.returns (by simp) (hb hby at_197) hr84, hrun84, hended84, _, _, rfl, ?_, ⟨_, rfl⟩, hW84, hsame84.mono (by decide) (by decide)⟩
                show Q_rm0 Z w0 w1 w2 w3 w4 w5 wV kV p0 p1 h0 n0 _ T81.heap _
                exact ⟨(congrArg (fun z => some (Value.int z)) hn83), N82⟩
    refine own_by (T' := T6) (g' := (mkF m 32 #[.val (.int p0), .val (.int p1), .val (.ref t_3), .val (.int sv), .val (.int (sv % (6 : Int32))), .unset, .unset, .unset, .unset, .unset] [(.int (sv % (6 : Int32)))])) (fun _ kt_ => XS.iload X6.here hx rfl (hb hby at_30) rfl kt_) ?_
    by_cases hc85 : (sv % (6 : Int32)) < (0 : Int32)
    · refine own_by (T' := T6) (g' := (mkF m 35 #[.val (.int p0), .val (.int p1), .val (.ref t_3), .val (.int sv), .val (.int (sv % (6 : Int32))), .unset, .unset, .unset, .unset, .unset] [])) (fun _ kt_ => XS.ifNo X6.here hx rfl (hb hby at_32) rfl (XT.i0_ge_f hc85) kt_) ?_
      refine own_by (T' := T6) (g' := (mkF m 38 #[.val (.int p0), .val (.int p1), .val (.ref t_3), .val (.int sv), .val (.int ((sv % (6 : Int32)) + (6 : Int32))), .unset, .unset, .unset, .unset, .unset] [])) (fun _ kt_ => XS.iinc X6.here hx rfl (hb hby at_35) rfl (l' := #[.val (.int p0), .val (.int p1), .val (.ref t_3), .val (.int sv), .val (.int ((sv % (6 : Int32)) + (6 : Int32))), .unset, .unset, .unset, .unset, .unset]) rfl kt_) ?_
      exact J8 T6 _  X6 e6  N6 ((sv % (6 : Int32)) + (6 : Int32))  (by have a := Int32.lt_iff_toInt_lt.mp hc85; rw [show (0 : Int32).toInt = 0 from rfl] at a; have c := c_iadd (sv % (6 : Int32)) (6 : Int32); have d := Int32.le_toInt ((sv % (6 : Int32)) + (6 : Int32)); have e := Int32.toInt_lt ((sv % (6 : Int32)) + (6 : Int32)); rw [show (6 : Int32).toInt = 6 from rfl] at c; omega)
    · refine own_by (T' := T6) (g' := (mkF m 38 #[.val (.int p0), .val (.int p1), .val (.ref t_3), .val (.int sv), .val (.int (sv % (6 : Int32))), .unset, .unset, .unset, .unset, .unset] [])) (fun _ kt_ => XS.ifYes X6.here hx rfl (pc0 := 32) (pc' := 38) rfl (hb hby at_32) rfl (XT.i0_ge_t hc85) (by decide) (by decide) kt_) ?_
      exact J8 T6 _  X6 e6  N6 (sv % (6 : Int32))  (by have a : ¬ _ := fun q => hc85 (Int32.lt_iff_toInt_lt.mpr q); rw [show (0 : Int32).toInt = 0 from rfl] at a; omega)
  refine own_by (T' := T2) (g' := (mkF m 14 #[.val (.int p0), .val (.int p1), .val (.ref t_3), .val (.int p1), .unset, .unset, .unset, .unset, .unset, .unset] [(.int p1)])) (fun _ kt_ => XS.iloadN X2.here hx rfl (hb hby at_13) rfl kt_) ?_
  refine own_by (T' := T2) (g' := (mkF m 16 #[.val (.int p0), .val (.int p1), .val (.ref t_3), .val (.int p1), .unset, .unset, .unset, .unset, .unset, .unset] [(.int (2147483642 : Int32)), (.int p1)])) (fun _ kt_ => X2.ldcInt hx hown (mvT hZ (hw _ (List.mem_of_getElem? (i := 8) rfl))) (g := (mkF m 14 #[.val (.int p0), .val (.int p1), .val (.ref t_3), .val (.int p1), .unset, .unset, .unset, .unset, .unset, .unset] [(.int p1)])) rfl (hb hby at_14) _ kt_) ?_
  by_cases hc87 : (2147483642 : Int32) < p1
  · refine own_by (T' := T2) (g' := (mkF m 19 #[.val (.int p0), .val (.int p1), .val (.ref t_3), .val (.int p1), .unset, .unset, .unset, .unset, .unset, .unset] [])) (fun _ kt_ => XS.icmpNo X2.here hx rfl (hb hby at_16) rfl (XT.ii_le_f hc87) kt_) ?_
    refine own_by (T' := T2) (g' := (mkF m 20 #[.val (.int p0), .val (.int p1), .val (.ref t_3), .val (.int p1), .unset, .unset, .unset, .unset, .unset, .unset] [(.int p1)])) (fun _ kt_ => XS.iloadN X2.here hx rfl (hb hby at_19) rfl kt_) ?_
    refine own_by (T' := T2) (g' := (mkF m 22 #[.val (.int p0), .val (.int p1), .val (.ref t_3), .val (.int p1), .unset, .unset, .unset, .unset, .unset, .unset] [(.int (6 : Int32)), (.int p1)])) (fun _ kt_ => XS.bipush X2.here hx rfl (hb hby at_20) kt_) ?_
    refine own_by (T' := T2) (g' := (mkF m 23 #[.val (.int p0), .val (.int p1), .val (.ref t_3), .val (.int p1), .unset, .unset, .unset, .unset, .unset, .unset] [(.int (p1 - (6 : Int32)))])) (fun _ kt_ => XS.isub X2.here hx rfl (hb hby at_22) rfl kt_) ?_
    refine own_by (T' := T2) (g' := (mkF m 24 #[.val (.int p0), .val (.int p1), .val (.ref t_3), .val (.int (p1 - (6 : Int32))), .unset, .unset, .unset, .unset, .unset, .unset] [])) (fun _ kt_ => XS.istoreN X2.here hx rfl (hb hby at_23) rfl (l' := #[.val (.int p0), .val (.int p1), .val (.ref t_3), .val (.int (p1 - (6 : Int32))), .unset, .unset, .unset, .unset, .unset, .unset]) rfl kt_) ?_
    exact J6 T2 _  X2 e2  N5 (p1 - (6 : Int32))  (by have a := Int32.lt_iff_toInt_lt.mp hc87; have b := Int32.toInt_lt p1; have c := c_isub p1 (6 : Int32); have d := Int32.le_toInt (p1 - (6 : Int32)); have e := Int32.toInt_lt (p1 - (6 : Int32)); rw [show (6 : Int32).toInt = 6 from rfl] at c; rw [show (2147483642 : Int32).toInt = 2147483642 from rfl] at a; omega)
  · refine own_by (T' := T2) (g' := (mkF m 24 #[.val (.int p0), .val (.int p1), .val (.ref t_3), .val (.int p1), .unset, .unset, .unset, .unset, .unset, .unset] [])) (fun _ kt_ => XS.icmpYes X2.here hx rfl (pc0 := 16) (pc' := 24) rfl (hb hby at_16) rfl (XT.ii_le_t hc87) (by decide) (by decide) kt_) ?_
    exact J6 T2 _  X2 e2  N5 p1  (by have a : ¬ _ := fun q => hc87 (Int32.lt_iff_toInt_lt.mpr q); rw [show (2147483642 : Int32).toInt = 2147483642 from rfl] at a; omega)
set_option maxRecDepth 65536 in
set_option maxHeartbeats 40000000 in
theorem comes_1 {Post : Tables → Env → Array Value → State → Outcome → State → Prop} (hpost : ∀ tb e args s v u, (limb_1_1.after args s (.returned v) u = true ∧ limb_1_2.after args s (.returned v) u = true ∧ True) → FrameEnd s (.returned v) u (Jvm.fieldLocs frame_1_writes args s ++ Jvm.arrayLocs frame_1_arrays args s ++ Jvm.staticLocs frame_1_statics s) 16 128 → Post tb e args s (.returned v) u) :
    ArmFor flags0 classFile x code maxLocals ret World_1 tables_1 room_1 Calls_1 rest_1 Pre_1 Post := by
  intro l hfl _ _ p e ha hc hk s m args below hf hA hF happ hP
  obtain ⟨hcalls, hrest, hpre⟩ := hP
  obtain ⟨-, -, -, hnamed, -, -, -, hat⟩ := (Spec.applies_iff hf).mp happ
  obtain ⟨hg, hn⟩ := and_e (Cond.before_iff.mp (show (Jvm.Cond.and given_1 narrow_1).before args s = true from hpre))
  obtain ⟨g1a, g1b⟩ := and_e hg
  obtain ⟨g2a, g2b⟩ := and_e g1b
  obtain ⟨g3a, g3b⟩ := and_e hn
  obtain ⟨g4a, g4b⟩ := and_e g3b
  obtain ⟨g5a, g5b⟩ := and_e g4b
  obtain ⟨g6a, g6b⟩ := and_e g5b
  obtain ⟨g7a, g7b⟩ := and_e g6b
  obtain ⟨g8a, g8b⟩ := and_e g7b
  obtain ⟨g9a, g9b⟩ := and_e g8b
  obtain ⟨g10a, g10b⟩ := and_e g9b
  obtain ⟨g11a, g11b⟩ := and_e g10b
  obtain ⟨g12a, g12b⟩ := and_e g11b
  obtain ⟨g13a, g13b⟩ := and_e g12b
  obtain ⟨g14a, g14b⟩ := and_e g13b
  obtain ⟨g15a, g15b⟩ := and_e g14b
  obtain ⟨g16a, g16b⟩ := and_e g15b
  obtain ⟨g17a, g17b⟩ := and_e g16b
  obtain ⟨g18a, g18b⟩ := and_e g17b
  obtain ⟨g19a, g19b⟩ := and_e g18b
  obtain ⟨g20a, g20b⟩ := and_e g19b
  obtain ⟨g21a, g21b⟩ := and_e g20b
  obtain ⟨g22a, g22b⟩ := and_e g21b
  obtain ⟨g23a, g23b⟩ := and_e g22b
  obtain ⟨g24a, g24b⟩ := and_e g23b
  obtain ⟨g25a, g25b⟩ := and_e g24b
  obtain ⟨g26a, g26b⟩ := and_e g25b
  obtain ⟨g27a, g27b⟩ := and_e g26b
  obtain ⟨g28a, g28b⟩ := and_e g27b
  obtain ⟨g29a, g29b⟩ := and_e g28b
  obtain ⟨g30a, g30b⟩ := and_e g29b
  obtain ⟨g31a, g31b⟩ := and_e g30b
  obtain ⟨g32a, g32b⟩ := and_e g31b
  obtain ⟨g33a, g33b⟩ := and_e g32b
  obtain ⟨g34a, g34b⟩ := and_e g33b
  obtain ⟨w0, w1, rfl⟩ : ∃ w0 w1 : Value, args = #[w0, w1] := by
    have hs : args.size = 2 := by simpa [Cond.value, given_1] using g1a
    obtain ⟨L⟩ := args
    match L, hs with
    | [w0, w1], _ => exact ⟨w0, w1, rfl⟩
  have hw := fun d (hd : d ∈ tables_1) => atoms_spec (ws := Jvm.Cond.code x code maxLocals ret :: tables_1) hat d (List.mem_cons_of_mem _ hd)
  have hfit : Fit s := fun {y c} hc i hi => by
    obtain ⟨ha, rfl⟩ := Array.getElem?_eq_some_iff.mp hc
    have q := List.all_eq_true.mp ((Array.all_eq_true_iff_forall_mem.mp hF) _ (Array.getElem_mem ha)) i (List.mem_range.mpr hi)
    simpa [Array.getElem?_eq_getElem hi] using q
  obtain ⟨i0, ei0⟩ := is_v g2a
  obtain rfl : w0 = (.int i0) := Option.some.inj ei0
  obtain ⟨i1, ei1⟩ := is_v g2b
  obtain rfl : w1 = (.int i1) := Option.some.inj ei1
  obtain ⟨w0, ev_w0⟩ := exa_v g3a
  have sta_w0 := Sta.start ev_w0 (Or.inr ⟨(hw _ (List.mem_of_getElem? (i := 6) rfl)), (hw _ (List.mem_of_getElem? (i := 7) rfl))⟩)
  obtain ⟨w1, ev_w1⟩ := exa_v g10a
  have sta_w1 := Sta.start ev_w1 (Or.inr ⟨(hw _ (List.mem_of_getElem? (i := 6) rfl)), (hw _ (List.mem_of_getElem? (i := 40) rfl))⟩)
  obtain ⟨w2, ev_w2⟩ := exa_v g12a
  have sta_w2 := Sta.start ev_w2 (Or.inr ⟨(hw _ (List.mem_of_getElem? (i := 6) rfl)), (hw _ (List.mem_of_getElem? (i := 41) rfl))⟩)
  obtain ⟨w3, ev_w3⟩ := exa_v g14a
  have sta_w3 := Sta.start ev_w3 (Or.inr ⟨(hw _ (List.mem_of_getElem? (i := 6) rfl)), (hw _ (List.mem_of_getElem? (i := 42) rfl))⟩)
  obtain ⟨w4, ev_w4⟩ := exa_v g16a
  have sta_w4 := Sta.start ev_w4 (Or.inr ⟨(hw _ (List.mem_of_getElem? (i := 6) rfl)), (hw _ (List.mem_of_getElem? (i := 43) rfl))⟩)
  obtain ⟨w5, ev_w5⟩ := exa_v g18a
  have sta_w5 := Sta.start ev_w5 (Or.inr ⟨(hw _ (List.mem_of_getElem? (i := 6) rfl)), (hw _ (List.mem_of_getElem? (i := 44) rfl))⟩)
  obtain ⟨wV, ev_wV⟩ := arr_v g6a
  have sta_wV := Sta.start ev_wV (Or.inl (hw _ (List.mem_of_getElem? (i := 45) rfl)))
  obtain ⟨cV, AV⟩ := Arr.start ev_wV g6a
  obtain ⟨lV1, lV2⟩ := own_len ev_wV AV g8a
  have el0 := own_elem ev_wV AV (by decide) ev_w0 rfl g9a
  have el1 := own_elem ev_wV AV (by decide) ev_w1 rfl g11a
  have el2 := own_elem ev_wV AV (by decide) ev_w2 rfl g13a
  have el3 := own_elem ev_wV AV (by decide) ev_w3 rfl g15a
  have el4 := own_elem ev_wV AV (by decide) ev_w4 rfl g17a
  have el5 := own_elem ev_wV AV (by decide) ev_w5 rfl g19a
  have arvV : Arv s s.heap wV cV.cls (.object "com/example/redoubt/redoubt/core/Direction") (6 : Int32) [(.ref w0), (.ref w1), (.ref w2), (.ref w3), (.ref w4), (.ref w5)] .null := Arv.start hfit AV lV1 lV2 (by decide) rfl ⟨el0, el1, el2, el3, el4, el5, trivial⟩
  obtain ⟨kV, hkV⟩ : ∃ z, z = cV.cls := ⟨_, rfl⟩
  rw [← hkV] at arvV
  have exa_w0 := Exa.start ev_w0 g3a
  have fld_w0_ordinal := own_fldI ev_w0 g20a
  have fld_w0_dq := own_fldI ev_w0 g4a
  have fld_w0_dr := own_fldI ev_w0 g5a
  have exa_w1 := Exa.start ev_w1 g10a
  have fld_w1_ordinal := own_fldI ev_w1 g33a
  have fld_w1_dq := own_fldI ev_w1 g31a
  have fld_w1_dr := own_fldI ev_w1 g32a
  have exa_w2 := Exa.start ev_w2 g12a
  have fld_w2_ordinal := own_fldI ev_w2 g25a
  have fld_w2_dq := own_fldI ev_w2 g23a
  have fld_w2_dr := own_fldI ev_w2 g24a
  have exa_w3 := Exa.start ev_w3 g14a
  have fld_w3_ordinal := own_fldI ev_w3 g34b
  have fld_w3_dq := own_fldI ev_w3 g21a
  have fld_w3_dr := own_fldI ev_w3 g22a
  have exa_w4 := Exa.start ev_w4 g16a
  have fld_w4_ordinal := own_fldI ev_w4 g30a
  have fld_w4_dq := own_fldI ev_w4 g28a
  have fld_w4_dr := own_fldI ev_w4 g29a
  have exa_w5 := Exa.start ev_w5 g18a
  have fld_w5_ordinal := own_fldI ev_w5 g34a
  have fld_w5_dq := own_fldI ev_w5 g26a
  have fld_w5_dr := own_fldI ev_w5 g27a
  have exa_wV := Exa.start ev_wV g7a
  have GS : Glob s w0 w1 w2 w3 w4 w5 wV kV := ⟨sta_w0, exa_w0, fld_w0_ordinal, fld_w0_dq, fld_w0_dr, sta_w1, exa_w1, fld_w1_ordinal, fld_w1_dq, fld_w1_dr, sta_w2, exa_w2, fld_w2_ordinal, fld_w2_dq, fld_w2_dr, sta_w3, exa_w3, fld_w3_ordinal, fld_w3_dq, fld_w3_dr, sta_w4, exa_w4, fld_w4_ordinal, fld_w4_dq, fld_w4_dr, sta_w5, exa_w5, fld_w5_ordinal, fld_w5_dq, fld_w5_dr, sta_wV, exa_wV, arvV⟩
  obtain ⟨n, o, h1, h2, h3, _, L, rfl, ⟨rfl, N⟩, hq⟩ := rm0 l s _ hw tables_1 w0 w1 w2 w3 w4 w5 wV kV GS i0 i1 s.heap s.heap.size (Nat.le_refl _) (Old.start s) p e ha hc hk s m _ below hf ((Spec.applies_iff_loose hf).mp happ).1 ⟨rfl, State.Warmed39.refl s, rfl⟩ trivial
  refine ⟨n, _, h1, h2, h3, hpost _ _ _ _ _ _ ⟨Cond.after_iff.mpr rfl, Cond.after_iff.mpr (eq_i res_at (Term.int_eval (1)) rfl), trivial⟩ ⟨hq.1, hq.2.1, (hq.2.2.sift fun y hy => Or.inr (N y hy)).mono (by decide) (by decide)⟩⟩
theorem main_1_1 : Claimed_1_1 := comes_1 fun _ _ _ _ _ _ h hF => ⟨h.1, hF⟩
theorem main_1_2 : Claimed_1_2 := comes_1 fun _ _ _ _ _ _ h hF => ⟨h.2.1, hF⟩
end Jvm.Pilot.@@N@@
namespace Jvm.Pilot.@@N@@
open Jvm Jvm.ClassFile Sem Op Lib Jvm.Free Jvm.Stand Jvm.Pilot.@@N@@.Jvm.D
/-! MADE BY PROGRAM (witnessworld.py) out of the Statement's table words and the real class files: 14 classes; the members and pool entries that the words name. The judged class is class 1, her method 2. -/
namespace start1
open Jvm.ClassFile
def u (s : String) : CpInfo := .utf8 (stringToUtf16 s)
/-- a pool by its gaps: so many unusable entries, then the entry; so many at the end -/
def gap : Nat → List CpInfo → List CpInfo
  | 0, r => r
  | n + 1, r => .unusable :: gap n r
def poolList (es : List (Nat × CpInfo)) (last : Nat) : List CpInfo := es.foldr (fun e r => gap e.1 (e.2 :: r)) (gap last [])
def pool (es : List (Nat × CpInfo)) (last : Nat) : Array CpInfo := ⟨poolList es last⟩
def fileOf (pool : Array CpInfo) (this : Nat) (attrs : Array Attribute := #[]) (ms : Array MethodInfo := #[]) (fl : Nat := 33) (sup : Nat := 0) (ifs : Array Nat := #[]) (fds : Array FieldInfo := #[]) : ClassFile where
  minorVersion := 0
  majorVersion := 65
  constantPool := pool
  accessFlags := fl
  thisClass := this
  superClass := sup
  interfaces := ifs
  fields := fds
  methods := ms
  attributes := attrs
def plain (name : String) (sup : Option ClassId) : Class where
  name := name
  kind := .ordinary
  loader := none
  accessFlags := 33
  super := sup
  interfaces := #[]
  cf := none
  fields := #[]
  methods := #[]
  instanceTypes := #[]
  staticTypes := #[]
  resolved := #[]
  callSites := []
  init := .initialized
  statics := none
  mirror := none

def pool0 : Array CpInfo := pool [(5, u "<init>"), (0, u "()V"), (1, .class_ 10), (1, u "java/lang/Object"), (85, u "clone"), (0, u "()Ljava/lang/Object;")] 26

def k0m0 : Method := { name := "<init>", desc := "()V", sig := { parameters := [], returnType := none }, accessFlags := 1, code := none }
def k0m1 : Method := { name := "clone", desc := "()Ljava/lang/Object;", sig := { parameters := [], returnType := some (.object "java/lang/Object") }, accessFlags := 260, code := none }
/-- java/lang/Object -/
def k0 : Class := { plain "java/lang/Object" none with
  accessFlags := 33
  interfaces := #[]
  cf := some (fileOf pool0 8 #[] #[{ accessFlags := 1, nameIndex := 5, descriptorIndex := 6, attributes := #[] }, { accessFlags := 260, nameIndex := 96, descriptorIndex := 97, attributes := #[] }] 33 0 #[] #[])
  fields := #[]
  methods := #[k0m0, k0m1]
  instanceTypes := #[]
  staticTypes := #[]
  resolved := Array.replicate 124 none
  statics := none }

def pool1 : Array CpInfo := pool [(2, .class_ 4), (1, u "java/lang/Object"), (0, u "<init>"), (0, u "()V"), (0, .fieldref 8 9), (0, .class_ 10), (0, .nameAndType 11 12), (0, u "com/example/redoubt/redoubt/core/Direction"), (0, u "N"), (0, u "Lcom/example/redoubt/redoubt/core/Direction;"), (0, .fieldref 8 14), (0, .nameAndType 15 12), (0, u "NE"), (0, .fieldref 8 17), (0, .nameAndType 18 12), (0, u "SE"), (0, .fieldref 8 20), (0, .nameAndType 21 12), (0, u "S"), (0, .fieldref 8 23), (0, .nameAndType 24 12), (0, u "SW"), (0, .fieldref 8 26), (0, .nameAndType 27 12), (0, u "NW"), (0, .integer 2147483647), (0, .methodref 30 31), (0, .class_ 32), (0, .nameAndType 33 34), (0, u "com/example/redoubt/redoubt/core/DirectionClockwisePinLaw"), (0, u "pick"), (0, u "(I)Lcom/example/redoubt/redoubt/core/Direction;"), (2, .integer 2147483642), (0, .methodref 8 39), (0, .nameAndType 40 41), (0, u "dq"), (0, u "()I"), (0, .methodref 8 43), (0, .nameAndType 44 41), (0, u "dr"), (0, .methodref 8 46), (0, .nameAndType 47 34), (0, u "clockwise"), (3, u "law"), (0, u "(II)Z")] 2

def k1m0 : Method := { name := "<init>", desc := "()V", sig := { parameters := [], returnType := none }, accessFlags := 1, code := none }
def k1c1 : Code := { maxStack := 2, maxLocals := 1, code := method_2_code, exceptionTable := #[], attributes := #[] }
def k1m1 : Method := { name := "pick", desc := "(I)Lcom/example/redoubt/redoubt/core/Direction;", sig := { parameters := [.int], returnType := some (.object "com/example/redoubt/redoubt/core/Direction") }, accessFlags := 10, code := some k1c1 }
def k1c2 : Code := { maxStack := 2, maxLocals := 10, code := code, exceptionTable := #[], attributes := #[] }
def k1m2 : Method := { name := "law", desc := "(II)Z", sig := { parameters := [.int, .int], returnType := some .boolean }, accessFlags := 9, code := some k1c2 }
/-- com/example/redoubt/redoubt/core/DirectionClockwisePinLaw -/
def k1 : Class := { plain "com/example/redoubt/redoubt/core/DirectionClockwisePinLaw" (some 0) with
  accessFlags := 49
  interfaces := #[]
  cf := some (fileOf pool1 30 #[] #[{ accessFlags := 1, nameIndex := 5, descriptorIndex := 6, attributes := #[] }, { accessFlags := 10, nameIndex := 33, descriptorIndex := 34, attributes := #[] }, { accessFlags := 9, nameIndex := 51, descriptorIndex := 52, attributes := #[] }] 49 2 #[] #[])
  fields := #[]
  methods := #[k1m0, k1m1, k1m2]
  instanceTypes := #[]
  staticTypes := #[]
  resolved := Array.replicate 55 none
  statics := none }

def pool2 : Array CpInfo := pool [(1, .class_ 2), (0, u "java/lang/constant/Constable"), (0, .class_ 4), (0, u "java/lang/Object")] 6

/-- java/lang/constant/Constable -/
def k2 : Class := { plain "java/lang/constant/Constable" (some 0) with
  accessFlags := 1537
  interfaces := #[]
  cf := some (fileOf pool2 1 #[] #[] 1537 3 #[] #[])
  fields := #[]
  methods := #[]
  instanceTypes := #[]
  staticTypes := #[]
  resolved := Array.replicate 11 none
  statics := none }

def pool3 : Array CpInfo := pool [(1, .class_ 2), (0, u "java/lang/Comparable"), (0, .class_ 4), (0, u "java/lang/Object")] 7

/-- java/lang/Comparable -/
def k3 : Class := { plain "java/lang/Comparable" (some 0) with
  accessFlags := 1537
  interfaces := #[]
  cf := some (fileOf pool3 1 #[] #[] 1537 3 #[] #[])
  fields := #[]
  methods := #[]
  instanceTypes := #[]
  staticTypes := #[]
  resolved := Array.replicate 12 none
  statics := none }

def pool4 : Array CpInfo := pool [(1, .class_ 2), (0, u "java/io/Serializable"), (0, .class_ 4), (0, u "java/lang/Object")] 2

/-- java/io/Serializable -/
def k4 : Class := { plain "java/io/Serializable" (some 0) with
  accessFlags := 1537
  interfaces := #[]
  cf := some (fileOf pool4 1 #[] #[] 1537 3 #[] #[])
  fields := #[]
  methods := #[]
  instanceTypes := #[]
  staticTypes := #[]
  resolved := Array.replicate 7 none
  statics := none }

def pool5 : Array CpInfo := pool [(2, .class_ 4), (1, u "java/lang/Enum"), (0, u "name"), (0, u "Ljava/lang/String;"), (0, .fieldref 2 8), (0, .nameAndType 9 10), (0, u "ordinal"), (0, u "I"), (1, .class_ 14), (1, u "java/lang/Object"), (4, u "hash"), (86, .class_ 108), (1, u "java/lang/Enum$EnumDesc"), (2, .class_ 112), (0, u "java/lang/constant/Constable"), (0, .class_ 114), (0, u "java/lang/Comparable"), (0, .class_ 116), (0, u "java/io/Serializable"), (9, u "()I")] 77

def k5c0 : Code := { maxStack := 1, maxLocals := 1, code := jdk_37_method_2_code, exceptionTable := #[], attributes := #[] }
def k5m0 : Method := { name := "ordinal", desc := "()I", sig := { parameters := [], returnType := some .int }, accessFlags := 17, code := some k5c0 }
/-- java/lang/Enum -/
def k5 : Class := { plain "java/lang/Enum" (some 0) with
  accessFlags := 1057
  interfaces := #[2, 3, 4]
  cf := some (fileOf pool5 2 #[.nestMembers #[106]] #[{ accessFlags := 17, nameIndex := 9, descriptorIndex := 126, attributes := #[] }] 1057 12 #[111, 113, 115] #[{ accessFlags := 18, nameIndex := 5, descriptorIndex := 6, attributes := #[] }, { accessFlags := 18, nameIndex := 9, descriptorIndex := 10, attributes := #[] }, { accessFlags := 2, nameIndex := 19, descriptorIndex := 10, attributes := #[] }])
  fields := #[{ name := "name", type := (.object "java/lang/String"), accessFlags := 18, slot := 0, constantValue := 0 }, { name := "ordinal", type := .int, accessFlags := 18, slot := 1, constantValue := 0 }, { name := "hash", type := .int, accessFlags := 2, slot := 2, constantValue := 0 }]
  methods := #[k5m0]
  instanceTypes := #[(.object "java/lang/String"), .int, .int]
  staticTypes := #[]
  resolved := Array.replicate 204 none
  statics := none }

def pool6 : Array CpInfo := pool [(1, .class_ 2), (0, u "com/example/redoubt/redoubt/core/Direction"), (2, u "N"), (0, u "Lcom/example/redoubt/redoubt/core/Direction;"), (2, u "NE"), (2, u "SE"), (2, u "S"), (2, u "SW"), (2, u "NW"), (0, .fieldref 1 23), (0, .nameAndType 24 25), (0, u "$VALUES"), (0, u "[Lcom/example/redoubt/redoubt/core/Direction;"), (0, .methodref 27 28), (0, .class_ 25), (0, .nameAndType 29 30), (0, u "clone"), (0, u "()Ljava/lang/Object;"), (1, .class_ 34), (1, u "java/lang/Enum"), (6, .fieldref 1 42), (0, .nameAndType 43 44), (0, u "dq"), (0, u "I"), (0, .fieldref 1 46), (0, .nameAndType 47 44), (0, u "dr"), (2, u "clockwise"), (0, u "(I)Lcom/example/redoubt/redoubt/core/Direction;"), (0, .methodref 1 53), (0, .nameAndType 54 55), (0, u "values"), (0, u "()[Lcom/example/redoubt/redoubt/core/Direction;"), (0, .methodref 1 57), (0, .nameAndType 58 59), (0, u "ordinal"), (0, u "()I"), (0, .methodref 61 62), (0, .class_ 63), (0, .nameAndType 64 65), (0, u "java/lang/Math"), (0, u "floorMod"), (0, u "(II)I")] 25

def k6c0 : Code := { maxStack := 1, maxLocals := 0, code := prog_6_method_1_code, exceptionTable := #[], attributes := #[] }
def k6m0 : Method := { name := "values", desc := "()[Lcom/example/redoubt/redoubt/core/Direction;", sig := { parameters := [], returnType := some (.array (.object "com/example/redoubt/redoubt/core/Direction")) }, accessFlags := 9, code := some k6c0 }
def k6c1 : Code := { maxStack := 1, maxLocals := 1, code := prog_6_method_4_code, exceptionTable := #[], attributes := #[] }
def k6m1 : Method := { name := "dq", desc := "()I", sig := { parameters := [], returnType := some .int }, accessFlags := 1, code := some k6c1 }
def k6c2 : Code := { maxStack := 1, maxLocals := 1, code := prog_6_method_5_code, exceptionTable := #[], attributes := #[] }
def k6m2 : Method := { name := "dr", desc := "()I", sig := { parameters := [], returnType := some .int }, accessFlags := 1, code := some k6c2 }
def k6c3 : Code := { maxStack := 3, maxLocals := 3, code := prog_6_method_7_code, exceptionTable := #[], attributes := #[] }
def k6m3 : Method := { name := "clockwise", desc := "(I)Lcom/example/redoubt/redoubt/core/Direction;", sig := { parameters := [.int], returnType := some (.object "com/example/redoubt/redoubt/core/Direction") }, accessFlags := 1, code := some k6c3 }
/-- com/example/redoubt/redoubt/core/Direction -/
def k6 : Class := { plain "com/example/redoubt/redoubt/core/Direction" (some 5) with
  accessFlags := 16433
  interfaces := #[]
  cf := some (fileOf pool6 1 #[] #[{ accessFlags := 9, nameIndex := 54, descriptorIndex := 55, attributes := #[] }, { accessFlags := 1, nameIndex := 43, descriptorIndex := 59, attributes := #[] }, { accessFlags := 1, nameIndex := 47, descriptorIndex := 59, attributes := #[] }, { accessFlags := 1, nameIndex := 50, descriptorIndex := 51, attributes := #[] }] 16433 32 #[] #[{ accessFlags := 16409, nameIndex := 5, descriptorIndex := 6, attributes := #[] }, { accessFlags := 16409, nameIndex := 9, descriptorIndex := 6, attributes := #[] }, { accessFlags := 16409, nameIndex := 12, descriptorIndex := 6, attributes := #[] }, { accessFlags := 16409, nameIndex := 15, descriptorIndex := 6, attributes := #[] }, { accessFlags := 16409, nameIndex := 18, descriptorIndex := 6, attributes := #[] }, { accessFlags := 16409, nameIndex := 21, descriptorIndex := 6, attributes := #[] }, { accessFlags := 18, nameIndex := 43, descriptorIndex := 44, attributes := #[] }, { accessFlags := 18, nameIndex := 47, descriptorIndex := 44, attributes := #[] }, { accessFlags := 4122, nameIndex := 24, descriptorIndex := 25, attributes := #[] }])
  fields := #[{ name := "N", type := (.object "com/example/redoubt/redoubt/core/Direction"), accessFlags := 16409, slot := 0, constantValue := 0 }, { name := "NE", type := (.object "com/example/redoubt/redoubt/core/Direction"), accessFlags := 16409, slot := 1, constantValue := 0 }, { name := "SE", type := (.object "com/example/redoubt/redoubt/core/Direction"), accessFlags := 16409, slot := 2, constantValue := 0 }, { name := "S", type := (.object "com/example/redoubt/redoubt/core/Direction"), accessFlags := 16409, slot := 3, constantValue := 0 }, { name := "SW", type := (.object "com/example/redoubt/redoubt/core/Direction"), accessFlags := 16409, slot := 4, constantValue := 0 }, { name := "NW", type := (.object "com/example/redoubt/redoubt/core/Direction"), accessFlags := 16409, slot := 5, constantValue := 0 }, { name := "dq", type := .int, accessFlags := 18, slot := 3, constantValue := 0 }, { name := "dr", type := .int, accessFlags := 18, slot := 4, constantValue := 0 }, { name := "$VALUES", type := (.array (.object "com/example/redoubt/redoubt/core/Direction")), accessFlags := 4122, slot := 6, constantValue := 0 }]
  methods := #[k6m0, k6m1, k6m2, k6m3]
  instanceTypes := #[(.object "java/lang/String"), .int, .int, .int, .int]
  staticTypes := #[(.object "com/example/redoubt/redoubt/core/Direction"), (.object "com/example/redoubt/redoubt/core/Direction"), (.object "com/example/redoubt/redoubt/core/Direction"), (.object "com/example/redoubt/redoubt/core/Direction"), (.object "com/example/redoubt/redoubt/core/Direction"), (.object "com/example/redoubt/redoubt/core/Direction"), (.array (.object "com/example/redoubt/redoubt/core/Direction"))]
  resolved := Array.replicate 91 none
  statics := some 0 }

def pool7 : Array CpInfo := pool [(1, .class_ 2), (0, u "java/lang/Cloneable"), (0, .class_ 4), (0, u "java/lang/Object")] 2

/-- java/lang/Cloneable -/
def k7 : Class := { plain "java/lang/Cloneable" (some 0) with
  accessFlags := 1537
  interfaces := #[]
  cf := some (fileOf pool7 1 #[] #[] 1537 3 #[] #[])
  fields := #[]
  methods := #[]
  instanceTypes := #[]
  staticTypes := #[]
  resolved := Array.replicate 7 none
  statics := none }

def pool8 : Array CpInfo := pool [(1, .class_ 2), (0, u "java/lang/Math"), (1, .class_ 6), (1, u "java/lang/Object"), (0, u "<init>"), (0, u "()V"), (89, .class_ 100), (1, u "java/lang/Math$RandomNumberGeneratorHolder"), (47, u "floorMod"), (23, u "negativeZeroFloatBits"), (0, u "J"), (2, u "negativeZeroDoubleBits"), (68, u "$assertionsDisabled"), (0, u "Z"), (88, u "(II)I"), (2, u "twoToTheDoubleScaleDown"), (0, u "D"), (4, u "twoToTheDoubleScaleUp"), (9, u "E"), (3, u "PI"), (2, u "TAU"), (2, u "DEGREES_TO_RADIANS"), (0, u "RADIANS_TO_DEGREES")] 94

def k8m0 : Method := { name := "<init>", desc := "()V", sig := { parameters := [], returnType := none }, accessFlags := 2, code := none }
def k8c1 : Code := { maxStack := 2, maxLocals := 3, code := jdk_29_method_50_code, exceptionTable := #[], attributes := #[] }
def k8m1 : Method := { name := "floorMod", desc := "(II)I", sig := { parameters := [.int, .int], returnType := some .int }, accessFlags := 9, code := some k8c1 }
/-- java/lang/Math -/
def k8 : Class := { plain "java/lang/Math" (some 0) with
  accessFlags := 49
  interfaces := #[]
  cf := some (fileOf pool8 1 #[.nestMembers #[98]] #[{ accessFlags := 2, nameIndex := 7, descriptorIndex := 8, attributes := #[] }, { accessFlags := 9, nameIndex := 148, descriptorIndex := 335, attributes := #[] }] 49 4 #[] #[{ accessFlags := 25, nameIndex := 354, descriptorIndex := 339, attributes := #[] }, { accessFlags := 25, nameIndex := 358, descriptorIndex := 339, attributes := #[] }, { accessFlags := 25, nameIndex := 361, descriptorIndex := 339, attributes := #[] }, { accessFlags := 26, nameIndex := 364, descriptorIndex := 339, attributes := #[] }, { accessFlags := 26, nameIndex := 365, descriptorIndex := 339, attributes := #[] }, { accessFlags := 26, nameIndex := 172, descriptorIndex := 173, attributes := #[] }, { accessFlags := 26, nameIndex := 176, descriptorIndex := 173, attributes := #[] }, { accessFlags := 8, nameIndex := 344, descriptorIndex := 339, attributes := #[] }, { accessFlags := 8, nameIndex := 338, descriptorIndex := 339, attributes := #[] }, { accessFlags := 4120, nameIndex := 245, descriptorIndex := 246, attributes := #[] }])
  fields := #[{ name := "E", type := .double, accessFlags := 25, slot := 0, constantValue := 0 }, { name := "PI", type := .double, accessFlags := 25, slot := 1, constantValue := 0 }, { name := "TAU", type := .double, accessFlags := 25, slot := 2, constantValue := 0 }, { name := "DEGREES_TO_RADIANS", type := .double, accessFlags := 26, slot := 3, constantValue := 0 }, { name := "RADIANS_TO_DEGREES", type := .double, accessFlags := 26, slot := 4, constantValue := 0 }, { name := "negativeZeroFloatBits", type := .long, accessFlags := 26, slot := 5, constantValue := 0 }, { name := "negativeZeroDoubleBits", type := .long, accessFlags := 26, slot := 6, constantValue := 0 }, { name := "twoToTheDoubleScaleUp", type := .double, accessFlags := 8, slot := 7, constantValue := 0 }, { name := "twoToTheDoubleScaleDown", type := .double, accessFlags := 8, slot := 8, constantValue := 0 }, { name := "$assertionsDisabled", type := .boolean, accessFlags := 4120, slot := 9, constantValue := 0 }]
  methods := #[k8m0, k8m1]
  instanceTypes := #[]
  staticTypes := #[.double, .double, .double, .double, .double, .long, .long, .double, .double, .boolean]
  resolved := Array.replicate 460 none
  statics := none }

/-- the primitive byte -/
def k9 : Class := { plain "byte" none with kind := .primitive 'B', accessFlags := 0x411 }
/-- [B -/
def k10 : Class := { plain "[B" (some 0) with kind := .array 9 .byte, interfaces := #[7, 4], accessFlags := 1041 }

/-- the primitive int -/
def k11 : Class := { plain "int" none with kind := .primitive 'I', accessFlags := 0x411 }
/-- [I -/
def k12 : Class := { plain "[I" (some 0) with kind := .array 11 .int, interfaces := #[7, 4], accessFlags := 1041 }

/-- [Lcom/example/redoubt/redoubt/core/Direction; -/
def k13 : Class := { plain "[Lcom/example/redoubt/redoubt/core/Direction;" (some 0) with kind := .array 6 (.object "com/example/redoubt/redoubt/core/Direction"), interfaces := #[7, 4], accessFlags := 1041 }

def heap : Heap := #[{ cls := 6, slots := #[.ref 2, .ref 3, .ref 4, .ref 5, .ref 6, .ref 7, .ref 1], vm := .statics 6 },
  { cls := 13, slots := #[.ref 2, .ref 3, .ref 4, .ref 5, .ref 6, .ref 7], vm := .none },
  { cls := 6, slots := #[.null, .int 0, .int 0, .int 0, .int (-1)], vm := .none },
  { cls := 6, slots := #[.null, .int 1, .int 0, .int 1, .int (-1)], vm := .none },
  { cls := 6, slots := #[.null, .int 2, .int 0, .int 1, .int 0], vm := .none },
  { cls := 6, slots := #[.null, .int 3, .int 0, .int 0, .int 1], vm := .none },
  { cls := 6, slots := #[.null, .int 4, .int 0, .int (-1), .int 1], vm := .none },
  { cls := 6, slots := #[.null, .int 5, .int 0, .int (-1), .int 0], vm := .none }]
def classes : Array Class := #[k0, k1, k2, k3, k4, k5, k6, k7, k8, k9, k10, k11, k12, k13]
def interned : List (Array UInt16 × Addr) := []
def slotsUsed : Nat := 43
def theMethod : MethodId := ⟨1, 2⟩
def args0 : Array Value := #[.int 1, .int 2]
def aboutOver (below : List Frame) : State where
  vm := { classes := classes, interned := interned.toArray }
  heap := heap
  slotsUsed := slotsUsed
  threads := #[{ frames := .invoking theMethod args0 :: below }]
def below0 : List Frame := [.native { method := ⟨0, 0⟩, args := #[] }]
def about1 : State := aboutOver below0
def p0 : Program := .bare "" "" ""
def e0 : Env := launch0.env 0 0 0
theorem w_frames : about1.frames = Frame.invoking theMethod args0 :: below0 := rfl
set_option maxRecDepth 65536 in
theorem w_args : argsFit about1.vm theMethod args0 = true := by decide +kernel
set_option maxRecDepth 65536 in
theorem w_heap : heapFits about1 = true := by decide +kernel
set_option maxRecDepth 65536 in
theorem w_runnable : about1.curStatus? = some .runnable := by decide +kernel
set_option maxRecDepth 65536 in
theorem w_alone : about1.alone = true := by decide +kernel
set_option maxRecDepth 65536 in
theorem w_named : about1.methodNamed? x = some theMethod := by decide +kernel
set_option maxRecDepth 65536 in
theorem w_hears : about1.hears theMethod below0 = true := by decide +kernel
set_option maxRecDepth 65536 in
theorem w_ripe : about1.ripe theMethod args0 below0 = true := by decide +kernel
theorem w_running : about1.status = .running := rfl
set_option maxRecDepth 65536 in
theorem w_room : about1.hasRoom e0.platform room_1 = true :=
  launch0.hasRoom_least _ room_1 (by decide +kernel) (by decide +kernel) (by decide +kernel) (by decide +kernel) (by decide +kernel) (by decide +kernel)
theorem allAtoms_all (ts : List Jvm.Cond) (a : Array Jvm.Value) (st : Jvm.State) : (allAtoms ts).before a st = ts.all (fun c => c.before a st) := by
  induction ts with
  | nil => rfl
  | cons c t ih =>
    show (Jvm.Cond.and c (allAtoms t)).before a st = _
    rw [Jvm.Cond.before_and, ih, List.all_cons]
def words1 : List Jvm.Cond := Jvm.Cond.code x code maxLocals ret :: tables_1
/-- a 'code' word, met by the world's own term for the bytes: nothing is compared byte by byte -/
theorem code_word {y : MethodName} {bytes : ByteArray} {mx : Nat} {rt : Option FieldType} {a : Array Value} {s : State} {m : MethodId} {meth : Method} {c : Code} (h1 : s.methodNamed? y = some m) (h2 : s.vm.method? m = some meth) (h3 : meth.code = some c) (h4 : c.code = bytes)
    (h5 : (c.maxLocals == mx && c.exceptionTable.isEmpty && decide (c.maxStack ≤ mostOperands) && decide (meth.sig.returnType = rt) && !meth.locks && decide (parseMethodDescriptor y.desc = some meth.sig)) = true) : (Jvm.Cond.code y bytes mx rt).before a s = true := by
  simp only [Bool.and_eq_true, beq_iff_eq, Bool.not_eq_true', decide_eq_true_eq] at h5
  obtain ⟨⟨⟨⟨⟨g1, g2⟩, g3⟩, g4⟩, g5⟩, g6⟩ := h5
  simp [Cond.before, Cond.holds, Cond.value, h1, h2, h3, h4, g1, g2, g3, g4, g5, g6]
def isCode : Jvm.Cond → Bool
  | .code _ _ _ _ => true
  | _ => false
theorem all_split {L : List Jvm.Cond} {P : Jvm.Cond → Bool} (h1 : L.all (fun c => isCode c || P c) = true) (h2 : ∀ c ∈ L.filter isCode, P c = true) : L.all P = true := by
  refine List.all_eq_true.mpr fun c hc => ?_
  have h := List.all_eq_true.mp h1 c hc
  rcases Bool.eq_false_or_eq_true (isCode c) with hi | hi
  · exact h2 c (List.mem_filter.mpr ⟨hc, hi⟩)
  · simpa [hi] using h
set_option maxRecDepth 65536 in
theorem w_c0 : (Jvm.Cond.code x code maxLocals ret).before args0 about1 = true := code_word (m := ⟨1, 2⟩) (meth := k1m2) (c := k1c2) (by decide +kernel) rfl rfl rfl (by decide +kernel)
set_option maxRecDepth 65536 in
theorem w_c1 : (Jvm.Cond.code ({ cls := "com/example/redoubt/redoubt/core/DirectionClockwisePinLaw", name := "pick", desc := "(I)Lcom/example/redoubt/redoubt/core/Direction;" } : Jvm.MethodName) method_2_code (1 : Nat) (Option.some (Jvm.ClassFile.FieldType.object "com/example/redoubt/redoubt/core/Direction"))).before args0 about1 = true := code_word (m := ⟨1, 1⟩) (meth := k1m1) (c := k1c1) (by decide +kernel) rfl rfl rfl (by decide +kernel)
set_option maxRecDepth 65536 in
theorem w_c2 : (Jvm.Cond.code ({ cls := "com/example/redoubt/redoubt/core/Direction", name := "dq", desc := "()I" } : Jvm.MethodName) prog_6_method_4_code (1 : Nat) (Option.some Jvm.ClassFile.FieldType.int)).before args0 about1 = true := code_word (m := ⟨6, 1⟩) (meth := k6m1) (c := k6c1) (by decide +kernel) rfl rfl rfl (by decide +kernel)
set_option maxRecDepth 65536 in
theorem w_c3 : (Jvm.Cond.code ({ cls := "com/example/redoubt/redoubt/core/Direction", name := "dr", desc := "()I" } : Jvm.MethodName) prog_6_method_5_code (1 : Nat) (Option.some Jvm.ClassFile.FieldType.int)).before args0 about1 = true := code_word (m := ⟨6, 2⟩) (meth := k6m2) (c := k6c2) (by decide +kernel) rfl rfl rfl (by decide +kernel)
set_option maxRecDepth 65536 in
theorem w_c4 : (Jvm.Cond.code ({ cls := "com/example/redoubt/redoubt/core/Direction", name := "clockwise", desc := "(I)Lcom/example/redoubt/redoubt/core/Direction;" } : Jvm.MethodName) prog_6_method_7_code (3 : Nat) (Option.some (Jvm.ClassFile.FieldType.object "com/example/redoubt/redoubt/core/Direction"))).before args0 about1 = true := code_word (m := ⟨6, 3⟩) (meth := k6m3) (c := k6c3) (by decide +kernel) rfl rfl rfl (by decide +kernel)
set_option maxRecDepth 65536 in
theorem w_c5 : (Jvm.Cond.code ({ cls := "com/example/redoubt/redoubt/core/Direction", name := "values", desc := "()[Lcom/example/redoubt/redoubt/core/Direction;" } : Jvm.MethodName) prog_6_method_1_code (0 : Nat) (Option.some (Jvm.ClassFile.FieldType.array (Jvm.ClassFile.FieldType.object "com/example/redoubt/redoubt/core/Direction")))).before args0 about1 = true := code_word (m := ⟨6, 0⟩) (meth := k6m0) (c := k6c0) (by decide +kernel) rfl rfl rfl (by decide +kernel)
set_option maxRecDepth 65536 in
theorem w_c6 : (Jvm.Cond.code ({ cls := "java/lang/Enum", name := "ordinal", desc := "()I" } : Jvm.MethodName) jdk_37_method_2_code (1 : Nat) (Option.some Jvm.ClassFile.FieldType.int)).before args0 about1 = true := code_word (m := ⟨5, 0⟩) (meth := k5m0) (c := k5c0) (by decide +kernel) rfl rfl rfl (by decide +kernel)
set_option maxRecDepth 65536 in
theorem w_c7 : (Jvm.Cond.code ({ cls := "java/lang/Math", name := "floorMod", desc := "(II)I" } : Jvm.MethodName) jdk_29_method_50_code (3 : Nat) (Option.some Jvm.ClassFile.FieldType.int)).before args0 about1 = true := code_word (m := ⟨8, 1⟩) (meth := k8m1) (c := k8c1) (by decide +kernel) rfl rfl rfl (by decide +kernel)
def codes1 : List Jvm.Cond := [Jvm.Cond.code x code maxLocals ret, Jvm.Cond.code ({ cls := "com/example/redoubt/redoubt/core/DirectionClockwisePinLaw", name := "pick", desc := "(I)Lcom/example/redoubt/redoubt/core/Direction;" } : Jvm.MethodName) method_2_code (1 : Nat) (Option.some (Jvm.ClassFile.FieldType.object "com/example/redoubt/redoubt/core/Direction")), Jvm.Cond.code ({ cls := "com/example/redoubt/redoubt/core/Direction", name := "dq", desc := "()I" } : Jvm.MethodName) prog_6_method_4_code (1 : Nat) (Option.some Jvm.ClassFile.FieldType.int), Jvm.Cond.code ({ cls := "com/example/redoubt/redoubt/core/Direction", name := "dr", desc := "()I" } : Jvm.MethodName) prog_6_method_5_code (1 : Nat) (Option.some Jvm.ClassFile.FieldType.int), Jvm.Cond.code ({ cls := "com/example/redoubt/redoubt/core/Direction", name := "clockwise", desc := "(I)Lcom/example/redoubt/redoubt/core/Direction;" } : Jvm.MethodName) prog_6_method_7_code (3 : Nat) (Option.some (Jvm.ClassFile.FieldType.object "com/example/redoubt/redoubt/core/Direction")), Jvm.Cond.code ({ cls := "com/example/redoubt/redoubt/core/Direction", name := "values", desc := "()[Lcom/example/redoubt/redoubt/core/Direction;" } : Jvm.MethodName) prog_6_method_1_code (0 : Nat) (Option.some (Jvm.ClassFile.FieldType.array (Jvm.ClassFile.FieldType.object "com/example/redoubt/redoubt/core/Direction"))), Jvm.Cond.code ({ cls := "java/lang/Enum", name := "ordinal", desc := "()I" } : Jvm.MethodName) jdk_37_method_2_code (1 : Nat) (Option.some Jvm.ClassFile.FieldType.int), Jvm.Cond.code ({ cls := "java/lang/Math", name := "floorMod", desc := "(II)I" } : Jvm.MethodName) jdk_29_method_50_code (3 : Nat) (Option.some Jvm.ClassFile.FieldType.int)]
set_option maxRecDepth 65536 in
theorem codes_eq : words1.filter isCode = codes1 := rfl
theorem w_codes : ∀ c ∈ words1.filter isCode, c.before args0 about1 = true := by
  rw [codes_eq]
  intro c hc
  simp only [codes1, List.mem_cons, List.not_mem_nil, or_false] at hc
  rcases hc with rfl | rfl | rfl | rfl | rfl | rfl | rfl | rfl
  · exact w_c0
  · exact w_c1
  · exact w_c2
  · exact w_c3
  · exact w_c4
  · exact w_c5
  · exact w_c6
  · exact w_c7
set_option maxRecDepth 65536 in
theorem w_t1 : (words1.take 24).all (fun c => isCode c || c.before args0 about1) = true := by decide +kernel
set_option maxRecDepth 65536 in
theorem w_t2 : ((words1.drop 24).take 24).all (fun c => isCode c || c.before args0 about1) = true := by decide +kernel
set_option maxRecDepth 65536 in
theorem w_t3 : ((words1.drop 24).drop 24).all (fun c => isCode c || c.before args0 about1) = true := by decide +kernel
theorem w_tables : (allAtoms (Jvm.Cond.code x code maxLocals ret :: tables_1)).before args0 about1 = true := by
  rw [allAtoms_all]
  show words1.all (fun c => c.before args0 about1) = true
  refine all_split ?_ w_codes
  rw [← List.take_append_drop 24 words1, List.all_append, w_t1, ← List.take_append_drop 24 (words1.drop 24), List.all_append, w_t2, w_t3]
  rfl
set_option maxRecDepth 65536 in
theorem w_case : (Jvm.Cond.and given_1 narrow_1).before args0 about1 = true := by decide +kernel
theorem w_applies : (headSpec (Jvm.Cond.code x code maxLocals ret :: tables_1) room_1).applies x e0.platform about1 = true :=
  (Spec.applies_iff w_frames).mpr ⟨w_running, w_runnable, w_alone, w_named, w_hears, w_ripe, w_room, w_tables⟩
theorem atStart : AtStart classFile x code maxLocals ret World_1 tables_1 room_1 Calls_1 rest_1 Pre_1 launch0 p0 e0 about1 theMethod args0 below0 :=
  ⟨lists_1, trivial, launch0.admits_env _ _ _, launch0.least_env, fairChoices_fair.cas, fairChoices_fair.clock, w_frames, w_args, w_heap, w_applies, trivial, trivial, w_case⟩
end start1
theorem witness_1 : WitnessClaimed_1 := ⟨start1.p0, start1.e0, start1.about1, start1.theMethod, start1.args0, start1.below0, start1.atStart⟩
end Jvm.Pilot.@@N@@
