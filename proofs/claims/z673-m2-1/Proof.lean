import JvmDerived
import JvmDerived.Pilot.@@N@@Statement
import JvmDerived.Pilot.@@N@@Code
set_option linter.unusedVariables false
set_option linter.unusedSimpArgs false
namespace Jvm.Pilot.@@N@@
open Jvm Jvm.ClassFile Sem Op Lib Jvm.Free Jvm.Stand Jvm.LawKit Jvm.RoadKit Bundle Jvm.Pilot.@@N@@.Jvm.D
/-! 0. the walk's goal, and how a step leads to it -/
def OGoal (p : Program) (e : Env) (below : List Frame) (Φ : Outcome → State → Prop) (T : State) (g : JFrame) : Prop :=
 ∃ s₂ o, Steps p.tables e below (T.setTop g) s₂ ∧ s₂.status = .running ∧ Ended s₂ below o ∧ Φ o s₂
theorem own_by {p : Program} {e : Env} {below : List Frame} {Φ : Outcome → State → Prop} {T T' : State} {g g' : JFrame}
  (st : ∀ t, Steps p.tables e below (T'.setTop g') t → Steps p.tables e below (T.setTop g) t) (G : OGoal p e below Φ T' g') : OGoal p e below Φ T g := by
 obtain ⟨s₂, o, h1, h2⟩ := G
 exact ⟨s₂, o, st _ h1, h2⟩
theorem own_enter {p : Program} {e : Env} {below : List Frame} {Φ : Outcome → State → Prop} {T : State} {g g' : JFrame} (q : g = g') (G : OGoal p e below Φ T g') :
  ∃ s₂ o, Steps p.tables e below (T.setTop g) s₂ ∧ s₂.status = .running ∧ Ended s₂ below o ∧ Φ o s₂ := by subst q; exact G
theorem ww {a0 : Array Value} {Z : State} (hw : ∀ d ∈ tables_1, d.before a0 Z = true) (i : Nat) {d : Jvm.Cond} (h : tables_1[i]? = some d) : d.before a0 Z = true := hw _ (List.mem_of_getElem? h)
theorem own_kext {h h' : Heap} (E : Ext h h') : Keep h h' [] := (Keep.refl h []).ext E
theorem own_narR {ty : FieldType} {v : Value} (hty : ty.isReference = true) (h : v.isRef = true) : narrow ty v = v := by
 rcases ref_cases h with rfl | ⟨a, rfl⟩ <;> cases ty <;> first | rfl | (cases hty)
theorem own_fitR {ty : FieldType} {v : Value} (hty : ty.isReference = true) (h : v.isRef = true) : fits ty v = true := by
 rcases ref_cases h with rfl | ⟨a, rfl⟩ <;> cases ty <;> first | rfl | (cases hty)
theorem own_narC (x : Int32) : nar .char (x.toUInt32.toUInt16.toUInt32.toInt32) = x.toUInt32.toUInt16.toUInt32.toInt32 := by
 show (x.toUInt32.toUInt16.toUInt32.toInt32).toUInt32.toUInt16.toUInt32.toInt32 = _
 simp only [UInt32.toUInt32_toInt32, UInt16.toUInt16_toUInt32]
theorem own_narB (x : Int32) : nar .byte (x.toInt8.toInt32) = x.toInt8.toInt32 := by
 show (x.toInt8.toInt32).toInt8.toInt32 = _
 simp
theorem own_fldI {Z : State} {args : Array Value} {t : Term} {a : Addr} {C n d : String} {k : Int32} (ev : t.eval args Z none [] Z = some (.ref a)) (h : (Jvm.Cond.eq (.field t C n d) (.int k)).value args Z none Z [] = some true) : Fld Z Z.heap a C n d (.int k) :=
 Fld.start ((fld_at ev).symm.trans (eqv_i (Term.int_eval k) h))
theorem own_fldJ {Z : State} {args : Array Value} {t : Term} {a : Addr} {C n d : String} {k : Int64} (ev : t.eval args Z none [] Z = some (.ref a)) (h : (Jvm.Cond.eq (.field t C n d) (.long k)).value args Z none Z [] = some true) : Fld Z Z.heap a C n d (.long k) :=
 Fld.start ((fld_at ev).symm.trans (eqv_l (F := .long k) rfl h))
def Glob (Z : State) (zC : Int32) (vF : Value) (hvF : vF.isRef = true) : Prop := Sta Z Z.heap "java/lang/String" "COMPACT_STRINGS" "Z" (.int zC) ∧ ¬ zC = (0 : Int32) ∧ Sta Z Z.heap "jdk/internal/util/Preconditions" "SIOOBE_FORMATTER" "Ljava/util/function/BiFunction;" vF ∧ Jvm.Lit.constHeld Z "java/lang/String" 7 ∧ Jvm.Lit.compactW.before #[] Z = true
def okF (c : Int32) : Prop := ¬ c < 0 ∧ ¬ (255 : Int32) < c
theorem own_okI {c : Int32} (h : okF c) : 0 ≤ c.toInt ∧ c.toInt ≤ 255 := by
 obtain ⟨h1, h2⟩ := h
 rw [Int32.lt_iff_toInt_lt] at h1 h2
 have e0 : (0 : Int32).toInt = 0 := rfl
 have e2 : (255 : Int32).toInt = 255 := rfl
 omega
theorem own_ok (x : Int32) : okF ((x &&& (255 : Int32)).toUInt32.toUInt16.toUInt32.toInt32) := by
 rw [i2c_mask]
 have := c_and x (255 : Int32) (by decide)
 have e0 : (0 : Int32).toInt = 0 := rfl
 have e2 : (255 : Int32).toInt = 255 := rfl
 constructor <;> rw [Int32.lt_iff_toInt_lt] <;> omega
theorem own_narok {c : Int32} (h : okF c) : nar .char c = c := by
 obtain ⟨h1, h2⟩ := own_okI h
 have e : (c &&& (255 : Int32)) = c := by
  rw [← Int32.toInt_inj, c_mask c (255 : Int32) 8 (by decide) (by decide)]
  show c.toInt % 256 = c.toInt
  omega
 rw [← e]
 exact i2c_mask c
theorem own_fitok {c : Int32} (h : okF c) : fits .char (.int c) = true := by
 have := fits_nar_char c
 rw [own_narok h] at this; exact this
theorem own_b8 {x y : Int32} (hx : okF x) (hy : okF y) : (x.toInt8.toInt32 = y.toInt8.toInt32) ↔ (x = y) := by
 constructor
 ·intro h
  obtain ⟨a1, a2⟩ := own_okI hx
  obtain ⟨b1, b2⟩ := own_okI hy
  have c1 := (c_i2b x).1
  have c2 := (c_i2b y).1
  rw [h] at c1
  rw [← Int32.toInt_inj]; omega
 ·intro h; rw [h]
theorem own_ib {Z s U : State} (I : IB Z s.vm []) (h : s.WarmedH U.vm) : IB Z U.vm [] := by
 have e : U.vm.interned = s.vm.interned := by
  have q := congrArg Vm.interned h.1
  exact q
 obtain ⟨more, h1, h2⟩ := I
 exact ⟨more, e.trans h1, h2⟩
theorem own_backI {p : Program} {l : Launch} {e : Env} {R : Room} {s : State} {args : Array Value} {below : List Frame} {Z : State} {a0 : Array Value} {h : Heap} {y : MethodName} {bytes : ByteArray} {maxL : Nat} {ret : Option FieldType} {rm : Room} {len W : Nat} {as' : Array Value} {Q : Option Value → Heap → List Loc → Prop}
  (hM : MetFree l y (head1 [Jvm.Cond.code y bytes maxL ret] rm) (fun a U => a = as' ∧ Z.Warmed39 U.vm ∧ U.heap = h ∧ IB Z U.vm []) (fun _ _ _ _ _ => True) (fun _ U o U' => ∃ v L, o = .returned v ∧ Q v U'.heap L ∧ ReturnedEndW U o U' L rm.cells rm.slots))
  (hZ : Z.Warmed39 s.vm) (wc : (Jvm.Cond.code y bytes maxL ret).before a0 Z = true) (wz : (Jvm.Cond.initialized y.cls).before a0 Z = true) (hf : rm.frames + 1 ≤ R.frames) (hl : W + (maxL + 11) + rm.locals ≤ R.locals) (hI : IB Z s.vm []) :
  BackS l R p e below s args y len W (fun A a => a = as' ∧ A.U.heap = h ∧ A.cells + rm.cells ≤ R.cells ∧ A.slots + rm.slots ≤ R.slots)
   (fun A _ v B => ∃ L, Q v B.U.heap L ∧ B.locs = A.locs ++ L ∧ B.cells = A.cells + rm.cells ∧ B.slots = A.slots + rm.slots) := by
 refine BackS.of_freeW (bytes := bytes) (maxL := maxL) (ret := ret) (E := fun _ _ o t L k n => k = rm.cells ∧ n = rm.slots ∧ ∃ v, o = .returned v ∧ Q v t.heap L) hM hf hl ?_ ?_ ?_ ?_ ?_
 ·intro m meth c A a Y hp
  have hU : Z.Warmed39 A.U.vm := wtrans hZ Y.warmed
  refine ⟨?_, mv hU wc, mv hU wz, hp.2.2.1, hp.2.2.2⟩
  show (Jvm.Cond.and _ .tt).before a A.U = true
  rw [Cond.before_and, mv hU wc]; rfl
 ·intro m meth c A a g mk Y hp
  exact ⟨hp.1, wtrans hZ Y.warmed, hp.2.1, own_ib hI Y.warmed⟩
 ·intros; trivial
 ·rintro _ _ _ _ ⟨v, L, h1, h2, h3⟩
  exact ⟨L, _, _, h3, rfl, rfl, v, h1, h2⟩
 ·intro m meth c A a g mk v t L k n Y hp _ _ hE
  obtain ⟨e1, e2, v', e3, e4⟩ := hE
  cases e3; subst e1 e2
  exact ⟨L, e4, rfl, rfl, rfl⟩
theorem own_chr {c : Int32} (h : okF c) : ((c.toInt8.toInt32 &&& (255 : Int32)).toUInt32.toUInt16.toUInt32.toInt32) = c := by
 rw [i2c_mask]
 obtain ⟨a1, a2⟩ := own_okI h
 have c1 := (c_i2b c).1
 have c2 : (c.toInt8.toInt32 &&& (255 : Int32)).toInt = c.toInt8.toInt32.toInt % 256 := c_mask _ (255 : Int32) 8 (by decide) (by decide)
 rw [← Int32.toInt_inj]; omega
def pickF (n : Int32) : Int32 := if (n &&& (256 : Int32)) = (0 : Int32) then ((n &&& (255 : Int32)).toUInt32.toUInt16.toUInt32.toInt32) else (((48 : Int32) + (((n.toUInt32 >>> ((9 : Int32) &&& 31).toUInt32).toInt32) % (10 : Int32))).toUInt32.toUInt16.toUInt32.toInt32)
theorem own_pick (n : Int32) : okF (pickF n) := by
 unfold pickF
 split
 ·exact own_ok n
 ·have h1 := c_iushr n (9 : Int32) 9 (by decide) (by decide)
  have h2 := (c_irem ((n.toUInt32 >>> ((9 : Int32) &&& 31).toUInt32).toInt32) (10 : Int32) 10 rfl).1 (by rw [h1]; omega)
  have h3 := c_iadd (48 : Int32) (((n.toUInt32 >>> ((9 : Int32) &&& 31).toUInt32).toInt32) % (10 : Int32))
  have h4 := c_i2c ((48 : Int32) + (((n.toUInt32 >>> ((9 : Int32) &&& 31).toUInt32).toInt32) % (10 : Int32)))
  have h5 := Int32.le_toInt ((48 : Int32) + (((n.toUInt32 >>> ((9 : Int32) &&& 31).toUInt32).toInt32) % (10 : Int32)))
  have h6 := Int32.toInt_lt ((48 : Int32) + (((n.toUInt32 >>> ((9 : Int32) &&& 31).toUInt32).toInt32) % (10 : Int32)))
  have e0 : (0 : Int32).toInt = 0 := rfl
  have e2 : (255 : Int32).toInt = 255 := rfl
  have e3 : (48 : Int32).toInt = 48 := rfl
  constructor <;> rw [Int32.lt_iff_toInt_lt] <;> omega
def isD (c : Int32) : Int32 := if c < (48 : Int32) then (0 : Int32) else if c < (58 : Int32) then (1 : Int32) else (0 : Int32)
theorem own_58 (c : Int32) : (57 : Int32) < c ↔ ¬ c < (58 : Int32) := by
 rw [Int32.lt_iff_toInt_lt, Int32.lt_iff_toInt_lt]
 have e0 : (57 : Int32).toInt = 57 := rfl
 have e2 : (58 : Int32).toInt = 58 := rfl
 omega
theorem own_nn (x : Int32) : (((x &&& (7 : Int32)) % (5 : Int32)) = (0 : Int32) ∨ ((x &&& (7 : Int32)) % (5 : Int32)) = (1 : Int32) ∨ ((x &&& (7 : Int32)) % (5 : Int32)) = (2 : Int32) ∨ ((x &&& (7 : Int32)) % (5 : Int32)) = (3 : Int32) ∨ ((x &&& (7 : Int32)) % (5 : Int32)) = (4 : Int32)) := by
 have h : (x &&& (7 : Int32)).toInt = x.toInt % 8 := c_mask x (7 : Int32) 3 (by decide) (by decide)
 have r := (c_irem (x &&& (7 : Int32)) (5 : Int32) 5 rfl).1 (by rw [h]; exact Int.emod_nonneg _ (by decide))
 simp only [← Int32.toInt_inj]
 have e0 : (0 : Int32).toInt = 0 := rfl
 have e1 : (1 : Int32).toInt = 1 := rfl
 have e2 : (2 : Int32).toInt = 2 := rfl
 have e3 : (3 : Int32).toInt = 3 := rfl
 have e4 : (4 : Int32).toInt = 4 := rfl
 omega
theorem own_n1 {n : Int32} (h : (n = (0 : Int32) ∨ n = (1 : Int32) ∨ n = (2 : Int32) ∨ n = (3 : Int32) ∨ n = (4 : Int32))) : (n + (1 : Int32)).toInt = n.toInt + 1 ∧ 0 ≤ n.toInt ∧ n.toInt ≤ 4 := by
 rcases h with rfl | rfl | rfl | rfl | rfl <;> decide
theorem own_n1' {n : Int32} (h : (n = (0 : Int32) ∨ n = (1 : Int32) ∨ n = (2 : Int32) ∨ n = (3 : Int32) ∨ n = (4 : Int32))) : ¬ (n + (1 : Int32)) = (0 : Int32) := by
 rcases h with rfl | rfl | rfl | rfl | rfl <;> decide
theorem own_nf {n : Int32} (x : Int32) (h : (n = (0 : Int32) ∨ n = (1 : Int32) ∨ n = (2 : Int32) ∨ n = (3 : Int32) ∨ n = (4 : Int32))) : ((n = (0 : Int32) ∧ ((x &&& (255 : Int32)) % (n + (1 : Int32))) = (0 : Int32)) ∨ (n = (1 : Int32) ∧ ((x &&& (255 : Int32)) % (n + (1 : Int32))) = (0 : Int32)) ∨ (n = (1 : Int32) ∧ ((x &&& (255 : Int32)) % (n + (1 : Int32))) = (1 : Int32)) ∨ (n = (2 : Int32) ∧ ((x &&& (255 : Int32)) % (n + (1 : Int32))) = (0 : Int32)) ∨ (n = (2 : Int32) ∧ ((x &&& (255 : Int32)) % (n + (1 : Int32))) = (1 : Int32)) ∨ (n = (2 : Int32) ∧ ((x &&& (255 : Int32)) % (n + (1 : Int32))) = (2 : Int32)) ∨ (n = (3 : Int32) ∧ ((x &&& (255 : Int32)) % (n + (1 : Int32))) = (0 : Int32)) ∨ (n = (3 : Int32) ∧ ((x &&& (255 : Int32)) % (n + (1 : Int32))) = (1 : Int32)) ∨ (n = (3 : Int32) ∧ ((x &&& (255 : Int32)) % (n + (1 : Int32))) = (2 : Int32)) ∨ (n = (3 : Int32) ∧ ((x &&& (255 : Int32)) % (n + (1 : Int32))) = (3 : Int32)) ∨ (n = (4 : Int32) ∧ ((x &&& (255 : Int32)) % (n + (1 : Int32))) = (0 : Int32)) ∨ (n = (4 : Int32) ∧ ((x &&& (255 : Int32)) % (n + (1 : Int32))) = (1 : Int32)) ∨ (n = (4 : Int32) ∧ ((x &&& (255 : Int32)) % (n + (1 : Int32))) = (2 : Int32)) ∨ (n = (4 : Int32) ∧ ((x &&& (255 : Int32)) % (n + (1 : Int32))) = (3 : Int32)) ∨ (n = (4 : Int32) ∧ ((x &&& (255 : Int32)) % (n + (1 : Int32))) = (4 : Int32))) := by
 have h0 : (x &&& (255 : Int32)).toInt = x.toInt % 256 := c_mask x (255 : Int32) 8 (by decide) (by decide)
 obtain ⟨h1, h2, h3⟩ := own_n1 h
 have r := (c_irem (x &&& (255 : Int32)) (n + (1 : Int32)) (n.toInt + 1) h1).1 (by rw [h0]; exact Int.emod_nonneg _ (by decide))
 have ra := Int.emod_nonneg (x &&& (255 : Int32)).toInt (b := n.toInt + 1) (by omega)
 have rb := Int.emod_lt_of_pos (x &&& (255 : Int32)).toInt (b := n.toInt + 1) (by omega)
 rw [← r] at ra rb
 generalize ((x &&& (255 : Int32)) % (n + (1 : Int32))) = f at ra rb ⊢
 clear r h0 h1 h2 h3
 rcases h with rfl | rfl | rfl | rfl | rfl
 ·have e : (0 : Int32).toInt = 0 := rfl
  have e0 : (0 : Int32).toInt = 0 := rfl
  have e1 : (1 : Int32).toInt = 1 := rfl
  have e2 : (2 : Int32).toInt = 2 := rfl
  have e3 : (3 : Int32).toInt = 3 := rfl
  have e4 : (4 : Int32).toInt = 4 := rfl
  have q : f.toInt = (0 : Int32).toInt := by omega
  rcases q with q <;> (have w := Int32.toInt_inj.mp q; subst w; decide)
 ·have e : (1 : Int32).toInt = 1 := rfl
  have e0 : (0 : Int32).toInt = 0 := rfl
  have e1 : (1 : Int32).toInt = 1 := rfl
  have e2 : (2 : Int32).toInt = 2 := rfl
  have e3 : (3 : Int32).toInt = 3 := rfl
  have e4 : (4 : Int32).toInt = 4 := rfl
  have q : f.toInt = (0 : Int32).toInt ∨ f.toInt = (1 : Int32).toInt := by omega
  rcases q with q | q <;> (have w := Int32.toInt_inj.mp q; subst w; decide)
 ·have e : (2 : Int32).toInt = 2 := rfl
  have e0 : (0 : Int32).toInt = 0 := rfl
  have e1 : (1 : Int32).toInt = 1 := rfl
  have e2 : (2 : Int32).toInt = 2 := rfl
  have e3 : (3 : Int32).toInt = 3 := rfl
  have e4 : (4 : Int32).toInt = 4 := rfl
  have q : f.toInt = (0 : Int32).toInt ∨ f.toInt = (1 : Int32).toInt ∨ f.toInt = (2 : Int32).toInt := by omega
  rcases q with q | q | q <;> (have w := Int32.toInt_inj.mp q; subst w; decide)
 ·have e : (3 : Int32).toInt = 3 := rfl
  have e0 : (0 : Int32).toInt = 0 := rfl
  have e1 : (1 : Int32).toInt = 1 := rfl
  have e2 : (2 : Int32).toInt = 2 := rfl
  have e3 : (3 : Int32).toInt = 3 := rfl
  have e4 : (4 : Int32).toInt = 4 := rfl
  have q : f.toInt = (0 : Int32).toInt ∨ f.toInt = (1 : Int32).toInt ∨ f.toInt = (2 : Int32).toInt ∨ f.toInt = (3 : Int32).toInt := by omega
  rcases q with q | q | q | q <;> (have w := Int32.toInt_inj.mp q; subst w; decide)
 ·have e : (4 : Int32).toInt = 4 := rfl
  have e0 : (0 : Int32).toInt = 0 := rfl
  have e1 : (1 : Int32).toInt = 1 := rfl
  have e2 : (2 : Int32).toInt = 2 := rfl
  have e3 : (3 : Int32).toInt = 3 := rfl
  have e4 : (4 : Int32).toInt = 4 := rfl
  have q : f.toInt = (0 : Int32).toInt ∨ f.toInt = (1 : Int32).toInt ∨ f.toInt = (2 : Int32).toInt ∨ f.toInt = (3 : Int32).toInt ∨ f.toInt = (4 : Int32).toInt := by omega
  rcases q with q | q | q | q | q <;> (have w := Int32.toInt_inj.mp q; subst w; decide)
def bF (n c0 c1 c2 c3 : Int32) : List Value := if n = (0 : Int32) then [] else if n = (1 : Int32) then [(.int c0.toInt8.toInt32)] else if n = (2 : Int32) then [(.int c0.toInt8.toInt32), (.int c1.toInt8.toInt32)] else if n = (3 : Int32) then [(.int c0.toInt8.toInt32), (.int c1.toInt8.toInt32), (.int c2.toInt8.toInt32)] else [(.int c0.toInt8.toInt32), (.int c1.toInt8.toInt32), (.int c2.toInt8.toInt32), (.int c3.toInt8.toInt32)]
theorem own_bF0 (c0 c1 c2 c3 : Int32) : bF (0 : Int32) c0 c1 c2 c3 = [] := by simp [bF]
theorem own_bF1 (c0 c1 c2 c3 : Int32) : bF (1 : Int32) c0 c1 c2 c3 = [(.int c0.toInt8.toInt32)] := by simp [bF]
theorem own_bF2 (c0 c1 c2 c3 : Int32) : bF (2 : Int32) c0 c1 c2 c3 = [(.int c0.toInt8.toInt32), (.int c1.toInt8.toInt32)] := by simp [bF]
theorem own_bF3 (c0 c1 c2 c3 : Int32) : bF (3 : Int32) c0 c1 c2 c3 = [(.int c0.toInt8.toInt32), (.int c1.toInt8.toInt32), (.int c2.toInt8.toInt32)] := by simp [bF]
theorem own_bF4 (c0 c1 c2 c3 : Int32) : bF (4 : Int32) c0 c1 c2 c3 = [(.int c0.toInt8.toInt32), (.int c1.toInt8.toInt32), (.int c2.toInt8.toInt32), (.int c3.toInt8.toInt32)] := by simp [bF]
def runF (n f c0 c1 c2 c3 : Int32) : Int32 := if n = (0 : Int32) then (if f = (0 : Int32) then (0 : Int32) else (0 : Int32)) else if n = (1 : Int32) then (if f = (0 : Int32) then (if c0 < (48 : Int32) then (0 : Int32) else (if (57 : Int32) < c0 then (0 : Int32) else (1 : Int32))) else if f = (1 : Int32) then (0 : Int32) else (0 : Int32)) else if n = (2 : Int32) then (if f = (0 : Int32) then (if c0 < (48 : Int32) then (0 : Int32) else (if (57 : Int32) < c0 then (0 : Int32) else (if c1 < (48 : Int32) then (1 : Int32) else (if (57 : Int32) < c1 then (1 : Int32) else (2 : Int32))))) else if f = (1 : Int32) then (if c1 < (48 : Int32) then (0 : Int32) else (if (57 : Int32) < c1 then (0 : Int32) else (1 : Int32))) else if f = (2 : Int32) then (0 : Int32) else (0 : Int32)) else if n = (3 : Int32) then (if f = (0 : Int32) then (if c0 < (48 : Int32) then (0 : Int32) else (if (57 : Int32) < c0 then (0 : Int32) else (if c1 < (48 : Int32) then (1 : Int32) else (if (57 : Int32) < c1 then (1 : Int32) else (if c2 < (48 : Int32) then (2 : Int32) else (if (57 : Int32) < c2 then (2 : Int32) else (3 : Int32))))))) else if f = (1 : Int32) then (if c1 < (48 : Int32) then (0 : Int32) else (if (57 : Int32) < c1 then (0 : Int32) else (if c2 < (48 : Int32) then (1 : Int32) else (if (57 : Int32) < c2 then (1 : Int32) else (2 : Int32))))) else if f = (2 : Int32) then (if c2 < (48 : Int32) then (0 : Int32) else (if (57 : Int32) < c2 then (0 : Int32) else (1 : Int32))) else if f = (3 : Int32) then (0 : Int32) else (0 : Int32)) else if n = (4 : Int32) then (if f = (0 : Int32) then (if c0 < (48 : Int32) then (0 : Int32) else (if (57 : Int32) < c0 then (0 : Int32) else (if c1 < (48 : Int32) then (1 : Int32) else (if (57 : Int32) < c1 then (1 : Int32) else (if c2 < (48 : Int32) then (2 : Int32) else (if (57 : Int32) < c2 then (2 : Int32) else (if c3 < (48 : Int32) then (3 : Int32) else (if (57 : Int32) < c3 then (3 : Int32) else (4 : Int32))))))))) else if f = (1 : Int32) then (if c1 < (48 : Int32) then (0 : Int32) else (if (57 : Int32) < c1 then (0 : Int32) else (if c2 < (48 : Int32) then (1 : Int32) else (if (57 : Int32) < c2 then (1 : Int32) else (if c3 < (48 : Int32) then (2 : Int32) else (if (57 : Int32) < c3 then (2 : Int32) else (3 : Int32))))))) else if f = (2 : Int32) then (if c2 < (48 : Int32) then (0 : Int32) else (if (57 : Int32) < c2 then (0 : Int32) else (if c3 < (48 : Int32) then (1 : Int32) else (if (57 : Int32) < c3 then (1 : Int32) else (2 : Int32))))) else if f = (3 : Int32) then (if c3 < (48 : Int32) then (0 : Int32) else (if (57 : Int32) < c3 then (0 : Int32) else (1 : Int32))) else if f = (4 : Int32) then (0 : Int32) else (0 : Int32)) else (0 : Int32)
theorem own_run_0_0 (c0 c1 c2 c3 : Int32) : runF (0 : Int32) (0 : Int32) c0 c1 c2 c3 = (0 : Int32) := by simp [runF]
theorem own_run_1_0 (c0 c1 c2 c3 : Int32) : runF (1 : Int32) (0 : Int32) c0 c1 c2 c3 = (if c0 < (48 : Int32) then (0 : Int32) else (if (57 : Int32) < c0 then (0 : Int32) else (1 : Int32))) := by simp [runF]
theorem own_run_1_1 (c0 c1 c2 c3 : Int32) : runF (1 : Int32) (1 : Int32) c0 c1 c2 c3 = (0 : Int32) := by simp [runF]
theorem own_run_2_0 (c0 c1 c2 c3 : Int32) : runF (2 : Int32) (0 : Int32) c0 c1 c2 c3 = (if c0 < (48 : Int32) then (0 : Int32) else (if (57 : Int32) < c0 then (0 : Int32) else (if c1 < (48 : Int32) then (1 : Int32) else (if (57 : Int32) < c1 then (1 : Int32) else (2 : Int32))))) := by simp [runF]
theorem own_run_2_1 (c0 c1 c2 c3 : Int32) : runF (2 : Int32) (1 : Int32) c0 c1 c2 c3 = (if c1 < (48 : Int32) then (0 : Int32) else (if (57 : Int32) < c1 then (0 : Int32) else (1 : Int32))) := by simp [runF]
theorem own_run_2_2 (c0 c1 c2 c3 : Int32) : runF (2 : Int32) (2 : Int32) c0 c1 c2 c3 = (0 : Int32) := by simp [runF]
theorem own_run_3_0 (c0 c1 c2 c3 : Int32) : runF (3 : Int32) (0 : Int32) c0 c1 c2 c3 = (if c0 < (48 : Int32) then (0 : Int32) else (if (57 : Int32) < c0 then (0 : Int32) else (if c1 < (48 : Int32) then (1 : Int32) else (if (57 : Int32) < c1 then (1 : Int32) else (if c2 < (48 : Int32) then (2 : Int32) else (if (57 : Int32) < c2 then (2 : Int32) else (3 : Int32))))))) := by simp [runF]
theorem own_run_3_1 (c0 c1 c2 c3 : Int32) : runF (3 : Int32) (1 : Int32) c0 c1 c2 c3 = (if c1 < (48 : Int32) then (0 : Int32) else (if (57 : Int32) < c1 then (0 : Int32) else (if c2 < (48 : Int32) then (1 : Int32) else (if (57 : Int32) < c2 then (1 : Int32) else (2 : Int32))))) := by simp [runF]
theorem own_run_3_2 (c0 c1 c2 c3 : Int32) : runF (3 : Int32) (2 : Int32) c0 c1 c2 c3 = (if c2 < (48 : Int32) then (0 : Int32) else (if (57 : Int32) < c2 then (0 : Int32) else (1 : Int32))) := by simp [runF]
theorem own_run_3_3 (c0 c1 c2 c3 : Int32) : runF (3 : Int32) (3 : Int32) c0 c1 c2 c3 = (0 : Int32) := by simp [runF]
theorem own_run_4_0 (c0 c1 c2 c3 : Int32) : runF (4 : Int32) (0 : Int32) c0 c1 c2 c3 = (if c0 < (48 : Int32) then (0 : Int32) else (if (57 : Int32) < c0 then (0 : Int32) else (if c1 < (48 : Int32) then (1 : Int32) else (if (57 : Int32) < c1 then (1 : Int32) else (if c2 < (48 : Int32) then (2 : Int32) else (if (57 : Int32) < c2 then (2 : Int32) else (if c3 < (48 : Int32) then (3 : Int32) else (if (57 : Int32) < c3 then (3 : Int32) else (4 : Int32))))))))) := by simp [runF]
theorem own_run_4_1 (c0 c1 c2 c3 : Int32) : runF (4 : Int32) (1 : Int32) c0 c1 c2 c3 = (if c1 < (48 : Int32) then (0 : Int32) else (if (57 : Int32) < c1 then (0 : Int32) else (if c2 < (48 : Int32) then (1 : Int32) else (if (57 : Int32) < c2 then (1 : Int32) else (if c3 < (48 : Int32) then (2 : Int32) else (if (57 : Int32) < c3 then (2 : Int32) else (3 : Int32))))))) := by simp [runF]
theorem own_run_4_2 (c0 c1 c2 c3 : Int32) : runF (4 : Int32) (2 : Int32) c0 c1 c2 c3 = (if c2 < (48 : Int32) then (0 : Int32) else (if (57 : Int32) < c2 then (0 : Int32) else (if c3 < (48 : Int32) then (1 : Int32) else (if (57 : Int32) < c3 then (1 : Int32) else (2 : Int32))))) := by simp [runF]
theorem own_run_4_3 (c0 c1 c2 c3 : Int32) : runF (4 : Int32) (3 : Int32) c0 c1 c2 c3 = (if c3 < (48 : Int32) then (0 : Int32) else (if (57 : Int32) < c3 then (0 : Int32) else (1 : Int32))) := by simp [runF]
theorem own_run_4_4 (c0 c1 c2 c3 : Int32) : runF (4 : Int32) (4 : Int32) c0 c1 c2 c3 = (0 : Int32) := by simp [runF]
theorem own_d10_0 : decode jdk_52_method_21_code 0 = .ok (.iconst 0, 1) := by decide +kernel
theorem own_d10_1 : decode jdk_52_method_21_code 1 = .ok (.istore 5, 2) := by decide +kernel
theorem own_d10_3 : decode jdk_52_method_21_code 3 = .ok (.iload 5, 2) := by decide +kernel
theorem own_d10_5 : decode jdk_52_method_21_code 5 = .ok (.iload 4, 2) := by decide +kernel
theorem own_d10_7 : decode jdk_52_method_21_code 7 = .ok (.if_icmp .ge 37, 3) := by decide +kernel
theorem own_d10_10 : decode jdk_52_method_21_code 10 = .ok (.aload_n 0, 1) := by decide +kernel
theorem own_d10_11 : decode jdk_52_method_21_code 11 = .ok (.iload_n 1, 1) := by decide +kernel
theorem own_d10_12 : decode jdk_52_method_21_code 12 = .ok (.caload, 1) := by decide +kernel
theorem own_d10_13 : decode jdk_52_method_21_code 13 = .ok (.istore 6, 2) := by decide +kernel
theorem own_d10_15 : decode jdk_52_method_21_code 15 = .ok (.iload 6, 2) := by decide +kernel
theorem own_d10_17 : decode jdk_52_method_21_code 17 = .ok (.sipush 255, 3) := by decide +kernel
theorem own_d10_20 : decode jdk_52_method_21_code 20 = .ok (.if_icmp .le 6, 3) := by decide +kernel
theorem own_d10_26 : decode jdk_52_method_21_code 26 = .ok (.aload_n 2, 1) := by decide +kernel
theorem own_d10_27 : decode jdk_52_method_21_code 27 = .ok (.iload_n 3, 1) := by decide +kernel
theorem own_d10_28 : decode jdk_52_method_21_code 28 = .ok (.iload 6, 2) := by decide +kernel
theorem own_d10_30 : decode jdk_52_method_21_code 30 = .ok (.i2b, 1) := by decide +kernel
theorem own_d10_31 : decode jdk_52_method_21_code 31 = .ok (.bastore, 1) := by decide +kernel
theorem own_d10_32 : decode jdk_52_method_21_code 32 = .ok (.iinc 1 1, 3) := by decide +kernel
theorem own_d10_35 : decode jdk_52_method_21_code 35 = .ok (.iinc 3 1, 3) := by decide +kernel
theorem own_d10_38 : decode jdk_52_method_21_code 38 = .ok (.iinc 5 1, 3) := by decide +kernel
theorem own_d10_41 : decode jdk_52_method_21_code 41 = .ok (.goto (-38), 3) := by decide +kernel
theorem own_d10_44 : decode jdk_52_method_21_code 44 = .ok (.iload 4, 2) := by decide +kernel
theorem own_d10_46 : decode jdk_52_method_21_code 46 = .ok (.ireturn, 1) := by decide +kernel
theorem own_pn_java_lang_StringUTF16 : plainName "java/lang/StringUTF16" = true := by first | (simp [plainName, overriddenIn]; done) | decide +kernel
theorem own_ef_rmC5_1 (m : MethodId) (x0 : Addr) (x1 : Int32) (x2 : Addr) (x3 : Int32) (x4 : Int32) : entryFrame m #[.ref x0, .int x1, .ref x2, .int x3, .int x4] 7 = mkF m 0 #[.val (.ref x0), .val (.int x1), .val (.ref x2), .val (.int x3), .val (.int x4), .unset, .unset] [] := by first | (simp [entryFrame, mkF, argsToLocals, Value.category]; done) | rfl
def Q_rmC5_1 (Z : State) (zC : Int32) (vF : Value) (hvF : vF.isRef = true) (b : Addr) (d : Addr) (kC : ClassId) (kB : ClassId) (c0 : Int32) (h0 : Heap) (n0 : Nat) (vv_ : Option Value) (hh_ : Heap) (LL_ : List Loc) : Prop := vv_ = some (.int 1) ∧ Fr n0 LL_ ∧ Keep h0 hh_ [d] ∧ Arv Z hh_ d kB .byte (1 : Int32) [(.int c0.toInt8.toInt32)] (.int 0)
set_option maxRecDepth 65536 in
set_option maxHeartbeats 40000000 in
theorem rmC5_1 (l : Launch) (Z : State) (a0 : Array Value) (hw : ∀ d ∈ tables_1, d.before a0 Z = true) (ws : List Jvm.Cond) (zC : Int32) (vF : Value) (hvF : vF.isRef = true) (GS : Glob Z zC vF hvF) (b : Addr) (d : Addr) (kC : ClassId) (kB : ClassId) (c0 : Int32) (h0 : Heap) (n0 : Nat) (Z0 : n0 ≤ h0.size) (O0 : Old Z n0 h0) (Vb : Arv Z h0 b kC .char (1 : Int32) [.int c0] (.int 0)) (Vd : Arv Z h0 d kB .byte (1 : Int32) [.int 0] (.int 0)) (gd : n0 ≤ d) (hbd : b ≠ d) (hp0 : ¬ (255 : Int32) < c0) :
  MetFree l (⟨"java/lang/StringUTF16", "compress", "([CI[BII)I"⟩ : MethodName) (head1 (Jvm.Cond.code (⟨"java/lang/StringUTF16", "compress", "([CI[BII)I"⟩ : MethodName) jdk_52_method_21_code 7 (some .int) :: ws) (⟨0, 0, 0, 0⟩ : Room)) (fun aa_ UU_ => aa_ = #[.ref b, .int 0, .ref d, .int 0, .int 1] ∧ Z.Warmed39 UU_.vm ∧ UU_.heap = h0) (fun _ _ _ _ _ => True) (fun _ UU_ oo_ UV_ => ∃ vv_ LL_, oo_ = .returned vv_ ∧ Q_rmC5_1 Z zC vF hvF b d kC kB c0 h0 n0 vv_ UV_.heap LL_ ∧ FrameEnd UU_ oo_ UV_ LL_ (⟨0, 0, 0, 0⟩ : Room).cells (⟨0, 0, 0, 0⟩ : Room).slots) := by
 refine MetFree.of_bodySF (plainFor_of_name own_pn_java_lang_StringUTF16) hisR ?_
 intro p e s m args below meth c s₁ Bd hml0 hP hK
 obtain ⟨rfl, hZ, hh⟩ := hP
 have hx := Bd.exec
 have hby := Bd.bytes
 have hml : c.maxLocals = 7 := hml0
 have hown : s.vm.findClass "java/lang/StringUTF16" = some m.cls := findClass_of_methodNamed Bd.named
 have hnm := (name_of_methodNamed Bd.named Bd.method).1
 have X0 : Stand p l e (⟨0, 0, 0, 0⟩ : Room) s m #[.ref b, .int 0, .ref d, .int 0, .int 1] below meth c s₁ [] 0 0 := Stand.of_body Bd
 have e0 : s₁.heap = h0 := by rw [← hh, Bd.state]; rfl
 have N0 := Fr.nil n0
 have hn0 : Z.heap.size = n0 := O0.1
 have KT0 : Keep h0 h0 [d] := Keep.refl _ _
 refine own_enter (Φ := fun oo_ UV_ => ∃ vv_ LL_, oo_ = .returned vv_ ∧ Q_rmC5_1 Z zC vF hvF b d kC kB c0 h0 n0 vv_ UV_.heap LL_ ∧ FrameEnd s oo_ UV_ LL_ (⟨0, 0, 0, 0⟩ : Room).cells (⟨0, 0, 0, 0⟩ : Room).slots) (own_ef_rmC5_1 m b (0 : Int32) d (0 : Int32) (1 : Int32)) ?_
 have ne1 : b ≠ d := hbd
 refine own_by (T' := s₁) (g' := (mkF m 1 #[.val (.ref b), .val (.int 0), .val (.ref d), .val (.int 0), .val (.int 1), .unset, .unset] [.int 0])) (fun _ kt_ => XS.iconst X0.here hx rfl (hb hby own_d10_0) kt_) ?_
 refine own_by (T' := s₁) (g' := (mkF m 3 #[.val (.ref b), .val (.int 0), .val (.ref d), .val (.int 0), .val (.int 1), .val (.int 0), .unset] [])) (fun _ kt_ => XS.istore X0.here hx rfl (hb hby own_d10_1) rfl (l' := #[.val (.ref b), .val (.int 0), .val (.ref d), .val (.int 0), .val (.int 1), .val (.int 0), .unset]) rfl kt_) ?_
 refine own_by (T' := s₁) (g' := (mkF m 5 #[.val (.ref b), .val (.int 0), .val (.ref d), .val (.int 0), .val (.int 1), .val (.int 0), .unset] [.int 0])) (fun _ kt_ => XS.iload X0.here hx rfl (hb hby own_d10_3) rfl kt_) ?_
 refine own_by (T' := s₁) (g' := (mkF m 7 #[.val (.ref b), .val (.int 0), .val (.ref d), .val (.int 0), .val (.int 1), .val (.int 0), .unset] [.int 1, .int 0])) (fun _ kt_ => XS.iload X0.here hx rfl (hb hby own_d10_5) rfl kt_) ?_
 refine own_by (T' := s₁) (g' := (mkF m 10 #[.val (.ref b), .val (.int 0), .val (.ref d), .val (.int 0), .val (.int 1), .val (.int 0), .unset] [])) (fun _ kt_ => XS.icmpNo X0.here hx rfl (hb hby own_d10_7) rfl (XT.ii_ge_f (by decide)) kt_) ?_
 refine own_by (T' := s₁) (g' := (mkF m 11 #[.val (.ref b), .val (.int 0), .val (.ref d), .val (.int 0), .val (.int 1), .val (.int 0), .unset] [.ref b])) (fun _ kt_ => XS.aloadN X0.here hx rfl (hb hby own_d10_10) rfl rfl kt_) ?_
 refine own_by (T' := s₁) (g' := (mkF m 12 #[.val (.ref b), .val (.int 0), .val (.ref d), .val (.int 0), .val (.int 1), .val (.int 0), .unset] [.int 0, .ref b])) (fun _ kt_ => XS.iloadN X0.here hx rfl (hb hby own_d10_11) rfl kt_) ?_
 obtain ⟨cl2, Ar2, q2, S2, M2, H2, G2⟩ := id Vb
 have hin2 : ¬ ((0 : Int32) < 0 ∨ cl2.slots.size ≤ ((0 : Int32)).toNatClampNeg) := inb_of S2 ⟨by decide, by decide⟩
 have hat2 : cl2.slots[((0 : Int32)).toNatClampNeg]? = some (.int c0) := H2.at hin2 rfl
 refine own_by (T' := s₁) (g' := (mkF m 13 #[.val (.ref b), .val (.int 0), .val (.ref d), .val (.int 0), .val (.int 1), .val (.int 0), .unset] [.int c0])) (fun _ kt_ => X0.caload hx (j := (0 : Int32)) (v := (.int c0)) (by rw [e0]; exact Ar2.1) (State.isArrayOf_alike hZ.alike Ar2.2.1) Ar2.2.2 hin2 hat2 (g := (mkF m 12 #[.val (.ref b), .val (.int 0), .val (.ref d), .val (.int 0), .val (.int 1), .val (.int 0), .unset] [.int 0, .ref b])) rfl rfl (hb hby own_d10_12) _ kt_) ?_
 refine own_by (T' := s₁) (g' := (mkF m 15 #[.val (.ref b), .val (.int 0), .val (.ref d), .val (.int 0), .val (.int 1), .val (.int 0), .val (.int c0)] [])) (fun _ kt_ => XS.istore X0.here hx rfl (hb hby own_d10_13) rfl (l' := #[.val (.ref b), .val (.int 0), .val (.ref d), .val (.int 0), .val (.int 1), .val (.int 0), .val (.int c0)]) rfl kt_) ?_
 refine own_by (T' := s₁) (g' := (mkF m 17 #[.val (.ref b), .val (.int 0), .val (.ref d), .val (.int 0), .val (.int 1), .val (.int 0), .val (.int c0)] [.int c0])) (fun _ kt_ => XS.iload X0.here hx rfl (hb hby own_d10_15) rfl kt_) ?_
 refine own_by (T' := s₁) (g' := (mkF m 20 #[.val (.ref b), .val (.int 0), .val (.ref d), .val (.int 0), .val (.int 1), .val (.int 0), .val (.int c0)] [.int 255, .int c0])) (fun _ kt_ => XS.sipush X0.here hx rfl (hb hby own_d10_17) kt_) ?_
 refine own_by (T' := s₁) (g' := (mkF m 26 #[.val (.ref b), .val (.int 0), .val (.ref d), .val (.int 0), .val (.int 1), .val (.int 0), .val (.int c0)] [])) (fun _ kt_ => XS.icmpYes X0.here hx rfl (pc0 := 20) (pc' := 26) rfl (hb hby own_d10_20) rfl (XT.ii_le_t hp0) (by decide) (by decide) kt_) ?_
 refine own_by (T' := s₁) (g' := (mkF m 27 #[.val (.ref b), .val (.int 0), .val (.ref d), .val (.int 0), .val (.int 1), .val (.int 0), .val (.int c0)] [.ref d])) (fun _ kt_ => XS.aloadN X0.here hx rfl (hb hby own_d10_26) rfl rfl kt_) ?_
 refine own_by (T' := s₁) (g' := (mkF m 28 #[.val (.ref b), .val (.int 0), .val (.ref d), .val (.int 0), .val (.int 1), .val (.int 0), .val (.int c0)] [.int 0, .ref d])) (fun _ kt_ => XS.iloadN X0.here hx rfl (hb hby own_d10_27) rfl kt_) ?_
 refine own_by (T' := s₁) (g' := (mkF m 30 #[.val (.ref b), .val (.int 0), .val (.ref d), .val (.int 0), .val (.int 1), .val (.int 0), .val (.int c0)] [.int c0, .int 0, .ref d])) (fun _ kt_ => XS.iload X0.here hx rfl (hb hby own_d10_28) rfl kt_) ?_
 refine own_by (T' := s₁) (g' := (mkF m 31 #[.val (.ref b), .val (.int 0), .val (.ref d), .val (.int 0), .val (.int 1), .val (.int 0), .val (.int c0)] [(.int c0.toInt8.toInt32), .int 0, .ref d])) (fun _ kt_ => XS.i2b X0.here hx rfl (hb hby own_d10_30) rfl kt_) ?_
 obtain ⟨cl3, Ar3, q3, S3, M3, H3, G3⟩ := id Vd
 have hin3 : ¬ ((0 : Int32) < 0 ∨ cl3.slots.size ≤ ((0 : Int32)).toNatClampNeg) := inb_of S3 ⟨by decide, by decide⟩
 obtain ⟨T3, h3, X3, e3, W3, st3⟩ := stB X0 hx hZ e0 Ar3 (j := (0 : Int32)) hin3 (g := (mkF m 31 #[.val (.ref b), .val (.int 0), .val (.ref d), .val (.int 0), .val (.int 1), .val (.int 0), .val (.int c0)] [(.int c0.toInt8.toInt32), .int 0, .ref d])) rfl rfl (hb hby own_d10_31)
 rw [show nar .byte c0.toInt8.toInt32 = c0.toInt8.toInt32 from own_narB _] at W3
 have K4 : Keep h0 h3 [d] := Keep.of_wr W3
 have zzK4 : h0.size ≤ h3.size := K4.1
 have oo5 : Old Z n0 h3 := O0.keep K4 (allS (by omega : n0 ≤ d) all0)
 have kt6 : Keep h0 h3 [d] := KT0.trans K4 (allS (Or.inl (List.mem_of_getElem? (i := 0) rfl)) all0)
 have f7 : Arv Z h3 d kB .byte (1 : Int32) [(.int c0.toInt8.toInt32)] (.int 0) := Arv.set Ar3 q3 S3 M3 H3 G3 (fits_nar_byte _) W3 0 rfl (Nat.le_of_ble_eq_true rfl)
 have N8 := Fr.snoc X3 N0 (by omega : n0 ≤ d)
 refine own_by (T' := T3) (g' := (mkF m 32 #[.val (.ref b), .val (.int 0), .val (.ref d), .val (.int 0), .val (.int 1), .val (.int 0), .val (.int c0)] [])) st3 ?_
 refine own_by (T' := T3) (g' := (mkF m 35 #[.val (.ref b), .val (.int ((0 : Int32) + (1 : Int32))), .val (.ref d), .val (.int 0), .val (.int 1), .val (.int 0), .val (.int c0)] [])) (fun _ kt_ => XS.iinc X3.here hx rfl (hb hby own_d10_32) rfl (l' := #[.val (.ref b), .val (.int ((0 : Int32) + (1 : Int32))), .val (.ref d), .val (.int 0), .val (.int 1), .val (.int 0), .val (.int c0)]) rfl kt_) ?_
 rw [show ((0 : Int32) + (1 : Int32)) = (1 : Int32) from by decide]
 refine own_by (T' := T3) (g' := (mkF m 38 #[.val (.ref b), .val (.int 1), .val (.ref d), .val (.int ((0 : Int32) + (1 : Int32))), .val (.int 1), .val (.int 0), .val (.int c0)] [])) (fun _ kt_ => XS.iinc X3.here hx rfl (hb hby own_d10_35) rfl (l' := #[.val (.ref b), .val (.int 1), .val (.ref d), .val (.int ((0 : Int32) + (1 : Int32))), .val (.int 1), .val (.int 0), .val (.int c0)]) rfl kt_) ?_
 rw [show ((0 : Int32) + (1 : Int32)) = (1 : Int32) from by decide]
 refine own_by (T' := T3) (g' := (mkF m 41 #[.val (.ref b), .val (.int 1), .val (.ref d), .val (.int 1), .val (.int 1), .val (.int ((0 : Int32) + (1 : Int32))), .val (.int c0)] [])) (fun _ kt_ => XS.iinc X3.here hx rfl (hb hby own_d10_38) rfl (l' := #[.val (.ref b), .val (.int 1), .val (.ref d), .val (.int 1), .val (.int 1), .val (.int ((0 : Int32) + (1 : Int32))), .val (.int c0)]) rfl kt_) ?_
 rw [show ((0 : Int32) + (1 : Int32)) = (1 : Int32) from by decide]
 refine own_by (T' := T3) (g' := (mkF m 3 #[.val (.ref b), .val (.int 1), .val (.ref d), .val (.int 1), .val (.int 1), .val (.int 1), .val (.int c0)] [])) (fun _ kt_ => XS.goto X3.here hx rfl (pc0 := 41) (pc' := 3) rfl (hb hby own_d10_41) (by decide) (by decide) kt_) ?_
 refine own_by (T' := T3) (g' := (mkF m 5 #[.val (.ref b), .val (.int 1), .val (.ref d), .val (.int 1), .val (.int 1), .val (.int 1), .val (.int c0)] [.int 1])) (fun _ kt_ => XS.iload X3.here hx rfl (hb hby own_d10_3) rfl kt_) ?_
 refine own_by (T' := T3) (g' := (mkF m 7 #[.val (.ref b), .val (.int 1), .val (.ref d), .val (.int 1), .val (.int 1), .val (.int 1), .val (.int c0)] [.int 1, .int 1])) (fun _ kt_ => XS.iload X3.here hx rfl (hb hby own_d10_5) rfl kt_) ?_
 refine own_by (T' := T3) (g' := (mkF m 44 #[.val (.ref b), .val (.int 1), .val (.ref d), .val (.int 1), .val (.int 1), .val (.int 1), .val (.int c0)] [])) (fun _ kt_ => XS.icmpYes X3.here hx rfl (pc0 := 7) (pc' := 44) rfl (hb hby own_d10_7) rfl (XT.ii_ge_t (by decide)) (by decide) (by decide) kt_) ?_
 refine own_by (T' := T3) (g' := (mkF m 46 #[.val (.ref b), .val (.int 1), .val (.ref d), .val (.int 1), .val (.int 1), .val (.int 1), .val (.int c0)] [.int 1])) (fun _ kt_ => XS.iload X3.here hx rfl (hb hby own_d10_44) rfl kt_) ?_
 obtain ⟨fs9, hr9, hrun9, hended9, hW9, hsame9⟩ := X3.leave (v := some (.int 1)) (fun h => by rw [Bd.returns] at h; cases h)
 refine ⟨_, _, retOut X3 hx (t := .int) Bd.returns rfl (Or.inl ⟨rfl, Or.inl rfl, _, rfl⟩) (hb hby own_d10_46) hr9, hrun9, hended9, _, _, rfl, ?_, ⟨_, rfl⟩, hW9, hsame9.mono (by decide) (by decide)⟩
 show Q_rmC5_1 Z zC vF hvF b d kC kB c0 h0 n0 _ T3.heap _
 rw [e3]
 exact ⟨rfl, N8, kt6, f7⟩
theorem own_pd_0 : parseMethodDescriptor "([CI[BII)I" = some ⟨[(.array .char), .int, (.array .byte), .int, .int], some .int⟩ := by decide +kernel
theorem own_d9_0 : decode jdk_52_method_16_code 0 = .ok (.iload_n 2, 1) := by decide +kernel
theorem own_d9_1 : decode jdk_52_method_16_code 1 = .ok (.newarray .byte, 2) := by decide +kernel
theorem own_d9_3 : decode jdk_52_method_16_code 3 = .ok (.astore_n 3, 1) := by decide +kernel
theorem own_d9_4 : decode jdk_52_method_16_code 4 = .ok (.aload_n 0, 1) := by decide +kernel
theorem own_d9_5 : decode jdk_52_method_16_code 5 = .ok (.iload_n 1, 1) := by decide +kernel
theorem own_d9_6 : decode jdk_52_method_16_code 6 = .ok (.aload_n 3, 1) := by decide +kernel
theorem own_d9_7 : decode jdk_52_method_16_code 7 = .ok (.iconst 0, 1) := by decide +kernel
theorem own_d9_8 : decode jdk_52_method_16_code 8 = .ok (.iload_n 2, 1) := by decide +kernel
theorem own_d9_9 : decode jdk_52_method_16_code 9 = .ok (.invokestatic 115, 3) := by decide +kernel
theorem own_d9_12 : decode jdk_52_method_16_code 12 = .ok (.istore 4, 2) := by decide +kernel
theorem own_d9_14 : decode jdk_52_method_16_code 14 = .ok (.iload 4, 2) := by decide +kernel
theorem own_d9_16 : decode jdk_52_method_16_code 16 = .ok (.iload_n 2, 1) := by decide +kernel
theorem own_d9_17 : decode jdk_52_method_16_code 17 = .ok (.if_icmp .eq 40, 3) := by decide +kernel
theorem own_d9_57 : decode jdk_52_method_16_code 57 = .ok (.aload_n 3, 1) := by decide +kernel
theorem own_d9_58 : decode jdk_52_method_16_code 58 = .ok (.areturn, 1) := by decide +kernel
theorem own_ef_rmC3_1 (m : MethodId) (x0 : Addr) (x1 : Int32) (x2 : Int32) : entryFrame m #[.ref x0, .int x1, .int x2] 6 = mkF m 0 #[.val (.ref x0), .val (.int x1), .val (.int x2), .unset, .unset, .unset] [] := by first | (simp [entryFrame, mkF, argsToLocals, Value.category]; done) | rfl
def Q_rmC3_1 (Z : State) (zC : Int32) (vF : Value) (hvF : vF.isRef = true) (b : Addr) (kC : ClassId) (c0 : Int32) (h0 : Heap) (n0 : Nat) (vv_ : Option Value) (hh_ : Heap) (LL_ : List Loc) : Prop := ∃ d : Addr, ∃ kB : ClassId, vv_ = some (.ref d) ∧ Fr n0 LL_ ∧ Keep h0 hh_ [] ∧ h0.size ≤ d ∧ Arv Z hh_ d kB .byte (1 : Int32) [(.int c0.toInt8.toInt32)] (.int 0)
set_option maxRecDepth 65536 in
set_option maxHeartbeats 40000000 in
theorem rmC3_1 (l : Launch) (Z : State) (a0 : Array Value) (hw : ∀ d ∈ tables_1, d.before a0 Z = true) (ws : List Jvm.Cond) (zC : Int32) (vF : Value) (hvF : vF.isRef = true) (GS : Glob Z zC vF hvF) (b : Addr) (kC : ClassId) (c0 : Int32) (h0 : Heap) (n0 : Nat) (Z0 : n0 ≤ h0.size) (O0 : Old Z n0 h0) (Vb : Arv Z h0 b kC .char (1 : Int32) [.int c0] (.int 0)) (hp0 : ¬ (255 : Int32) < c0) :
  MetFree l (⟨"java/lang/StringUTF16", "compress", "([CII)[B"⟩ : MethodName) (head1 (Jvm.Cond.code (⟨"java/lang/StringUTF16", "compress", "([CII)[B"⟩ : MethodName) jdk_52_method_16_code 6 (some (.array .byte)) :: ws) (⟨1, 1, 1, 18⟩ : Room)) (fun aa_ UU_ => aa_ = #[.ref b, .int 0, .int 1] ∧ Z.Warmed39 UU_.vm ∧ UU_.heap = h0) (fun _ _ _ _ _ => True) (fun _ UU_ oo_ UV_ => ∃ vv_ LL_, oo_ = .returned vv_ ∧ Q_rmC3_1 Z zC vF hvF b kC c0 h0 n0 vv_ UV_.heap LL_ ∧ FrameEnd UU_ oo_ UV_ LL_ (⟨1, 1, 1, 18⟩ : Room).cells (⟨1, 1, 1, 18⟩ : Room).slots) := by
 refine MetFree.of_bodySF (plainFor_of_name own_pn_java_lang_StringUTF16) hisR ?_
 intro p e s m args below meth c s₁ Bd hml0 hP hK
 obtain ⟨rfl, hZ, hh⟩ := hP
 have hx := Bd.exec
 have hby := Bd.bytes
 have hml : c.maxLocals = 6 := hml0
 have hown : s.vm.findClass "java/lang/StringUTF16" = some m.cls := findClass_of_methodNamed Bd.named
 have hnm := (name_of_methodNamed Bd.named Bd.method).1
 have X0 : Stand p l e (⟨1, 1, 1, 18⟩ : Room) s m #[.ref b, .int 0, .int 1] below meth c s₁ [] 0 0 := Stand.of_body Bd
 have e0 : s₁.heap = h0 := by rw [← hh, Bd.state]; rfl
 have N0 := Fr.nil n0
 have hn0 : Z.heap.size = n0 := O0.1
 have KT0 : Keep h0 h0 [] := Keep.refl _ _
 refine own_enter (Φ := fun oo_ UV_ => ∃ vv_ LL_, oo_ = .returned vv_ ∧ Q_rmC3_1 Z zC vF hvF b kC c0 h0 n0 vv_ UV_.heap LL_ ∧ FrameEnd s oo_ UV_ LL_ (⟨1, 1, 1, 18⟩ : Room).cells (⟨1, 1, 1, 18⟩ : Room).slots) (own_ef_rmC3_1 m b (0 : Int32) (1 : Int32)) ?_
 refine own_by (T' := s₁) (g' := (mkF m 1 #[.val (.ref b), .val (.int 0), .val (.int 1), .unset, .unset, .unset] [.int 1])) (fun _ kt_ => XS.iloadN X0.here hx rfl (hb hby own_d9_0) rfl kt_) ?_
 obtain ⟨T1, h1, k1, X1, e1, E1, A1, st1⟩ := newP X0 hx hZ (ww hw 22 rfl) e0 (g := (mkF m 1 #[.val (.ref b), .val (.int 0), .val (.int 1), .unset, .unset, .unset] [.int 1])) rfl (hb hby own_d9_1) rfl (by decide) (cap := 1) (by decide) (by decide) (by decide) (by decide)
 obtain ⟨b1, g1⟩ : ∃ z, z = h0.size := ⟨_, rfl⟩
 rw [← g1] at A1 st1
 have K2 : Keep h0 h1 [] := own_kext E1
 have zzK2 : h0.size ≤ h1.size := K2.1
 have oo3 : Old Z n0 h1 := O0.keep K2 all0
 have kt4 : Keep h0 h1 [] := KT0.trans K2 all0
 have lab1 : b1 < h1.size := A1.lt
 have f5 : Arv Z h1 b1 k1 .byte (1 : Int32) [.int 0] (.int 0) := (Arv.new A1 (by decide)).pad (pad_rep [] (.int 0) 1)
 refine own_by (T' := T1) (g' := (mkF m 3 #[.val (.ref b), .val (.int 0), .val (.int 1), .unset, .unset, .unset] [.ref b1])) st1 ?_
 refine own_by (T' := T1) (g' := (mkF m 4 #[.val (.ref b), .val (.int 0), .val (.int 1), .val (.ref b1), .unset, .unset] [])) (fun _ kt_ => XS.astoreN X1.here hx rfl (hb hby own_d9_3) rfl rfl (l' := #[.val (.ref b), .val (.int 0), .val (.int 1), .val (.ref b1), .unset, .unset]) rfl kt_) ?_
 refine own_by (T' := T1) (g' := (mkF m 5 #[.val (.ref b), .val (.int 0), .val (.int 1), .val (.ref b1), .unset, .unset] [.ref b])) (fun _ kt_ => XS.aloadN X1.here hx rfl (hb hby own_d9_4) rfl rfl kt_) ?_
 refine own_by (T' := T1) (g' := (mkF m 6 #[.val (.ref b), .val (.int 0), .val (.int 1), .val (.ref b1), .unset, .unset] [.int 0, .ref b])) (fun _ kt_ => XS.iloadN X1.here hx rfl (hb hby own_d9_5) rfl kt_) ?_
 refine own_by (T' := T1) (g' := (mkF m 7 #[.val (.ref b), .val (.int 0), .val (.int 1), .val (.ref b1), .unset, .unset] [.ref b1, .int 0, .ref b])) (fun _ kt_ => XS.aloadN X1.here hx rfl (hb hby own_d9_6) rfl rfl kt_) ?_
 refine own_by (T' := T1) (g' := (mkF m 8 #[.val (.ref b), .val (.int 0), .val (.int 1), .val (.ref b1), .unset, .unset] [.int 0, .ref b1, .int 0, .ref b])) (fun _ kt_ => XS.iconst X1.here hx rfl (hb hby own_d9_7) kt_) ?_
 refine own_by (T' := T1) (g' := (mkF m 9 #[.val (.ref b), .val (.int 0), .val (.int 1), .val (.ref b1), .unset, .unset] [.int 1, .int 0, .ref b1, .int 0, .ref b])) (fun _ kt_ => XS.iloadN X1.here hx rfl (hb hby own_d9_8) rfl kt_) ?_
 have f6 : Arv Z h1 b kC .char (1 : Int32) [.int c0] (.int 0) := (Vb.keep K2 nin0)
 have la7 : @LT.lt Nat instLTNat b h0.size := Vb.lt
 have ne8 : @Ne Nat b b1 := by omega
 obtain ⟨_, _, ⟨T9, L9, k9, n9⟩, -, X9, ⟨Lc9, hQ9, l9, y9, z9⟩, st9⟩ := Jvm.LawKit.callS X1 hx (y := (⟨"java/lang/StringUTF16", "compress", "([CI[BII)I"⟩ : MethodName)) hown (mvT hZ (ww hw 48 rfl)) (mvT hZ (ww hw 49 rfl)) (mvT hZ (ww hw 46 rfl)) (mvT hZ (ww hw 50 rfl)) (by decide) (backOf (W := 0) (rmC5_1 l Z a0 hw [] zC vF hvF GS b b1 kC k1 c0 h1 n0 (by omega) oo3 f6 f5 (by omega) ne8 hp0) hZ (ww hw 50 rfl) (ww hw 46 rfl) (by decide) (by decide)) (g := (mkF m 9 #[.val (.ref b), .val (.int 0), .val (.int 1), .val (.ref b1), .unset, .unset] [.int 1, .int 0, .ref b1, .int 0, .ref b])) rfl (by rw [hml]; rfl) (argsL := [.ref b, .int 0, .ref b1, .int 0, .int 1]) (rest := []) (lenOf own_pd_0 rfl) rfl (by show 2 * 0 + _ ≤ _; exact Nat.le_of_eq rfl) (hb hby own_d9_9) (fun _ _ => ⟨rfl, e1, (by decide : 1 + 0 ≤ _), (by decide : 1 + 0 ≤ _)⟩)
 dsimp only [Pt.U, Pt.locs, Pt.cells, Pt.slots] at X9 l9 y9 z9 st9 hQ9
 subst l9 y9 z9
 obtain ⟨rfl, N9q, K9, p9_0⟩ := hQ9
 have N10 := Fr.app N0 N9q
 have zzK9 : h1.size ≤ T9.heap.size := K9.1
 have oo11 : Old Z n0 T9.heap := oo3.keep K9 (allS (by omega : n0 ≤ b1) all0)
 have kt12 : Keep h0 T9.heap [] := kt4.trans K9 (allS (Or.inr (by omega : h0.size ≤ b1)) all0)
 refine own_by (T' := T9) (g' := (mkF m 12 #[.val (.ref b), .val (.int 0), .val (.int 1), .val (.ref b1), .unset, .unset] [.int 1])) st9 ?_
 refine own_by (T' := T9) (g' := (mkF m 14 #[.val (.ref b), .val (.int 0), .val (.int 1), .val (.ref b1), .val (.int 1), .unset] [])) (fun _ kt_ => XS.istore X9.here hx rfl (hb hby own_d9_12) rfl (l' := #[.val (.ref b), .val (.int 0), .val (.int 1), .val (.ref b1), .val (.int 1), .unset]) rfl kt_) ?_
 refine own_by (T' := T9) (g' := (mkF m 16 #[.val (.ref b), .val (.int 0), .val (.int 1), .val (.ref b1), .val (.int 1), .unset] [.int 1])) (fun _ kt_ => XS.iload X9.here hx rfl (hb hby own_d9_14) rfl kt_) ?_
 refine own_by (T' := T9) (g' := (mkF m 17 #[.val (.ref b), .val (.int 0), .val (.int 1), .val (.ref b1), .val (.int 1), .unset] [.int 1, .int 1])) (fun _ kt_ => XS.iloadN X9.here hx rfl (hb hby own_d9_16) rfl kt_) ?_
 refine own_by (T' := T9) (g' := (mkF m 57 #[.val (.ref b), .val (.int 0), .val (.int 1), .val (.ref b1), .val (.int 1), .unset] [])) (fun _ kt_ => XS.icmpYes X9.here hx rfl (pc0 := 17) (pc' := 57) rfl (hb hby own_d9_17) rfl (XT.ii_eq_t (by decide)) (by decide) (by decide) kt_) ?_
 refine own_by (T' := T9) (g' := (mkF m 58 #[.val (.ref b), .val (.int 0), .val (.int 1), .val (.ref b1), .val (.int 1), .unset] [.ref b1])) (fun _ kt_ => XS.aloadN X9.here hx rfl (hb hby own_d9_57) rfl rfl kt_) ?_
 obtain ⟨fs13, hr13, hrun13, hended13, hW13, hsame13⟩ := X9.leave (v := some (.ref b1)) (fun h => by rw [Bd.returns] at h; cases h)
 refine ⟨_, _, retOut X9 hx (t := (.array .byte)) Bd.returns rfl (Or.inr (Or.inr (Or.inr (Or.inr ⟨rfl, rfl, rfl⟩)))) (hb hby own_d9_58) hr13, hrun13, hended13, _, _, rfl, ?_, ⟨_, rfl⟩, hW13, hsame13.mono (by decide) (by decide)⟩
 show Q_rmC3_1 Z zC vF hvF b kC c0 h0 n0 _ T9.heap _
 exact ⟨b1, k1, rfl, N10, kt12, (by omega), p9_0⟩
theorem own_d11_0 : decode jdk_52_method_15_code 0 = .ok (.iload_n 1, 1) := by decide +kernel
theorem own_d11_1 : decode jdk_52_method_15_code 1 = .ok (.aload_n 0, 1) := by decide +kernel
theorem own_d11_2 : decode jdk_52_method_15_code 2 = .ok (.arraylength, 1) := by decide +kernel
theorem own_d11_3 : decode jdk_52_method_15_code 3 = .ok (.isub, 1) := by decide +kernel
theorem own_d11_4 : decode jdk_52_method_15_code 4 = .ok (.bipush 31, 2) := by decide +kernel
theorem own_d11_6 : decode jdk_52_method_15_code 6 = .ok (.iushr, 1) := by decide +kernel
theorem own_d11_7 : decode jdk_52_method_15_code 7 = .ok (.i2b, 1) := by decide +kernel
theorem own_d11_8 : decode jdk_52_method_15_code 8 = .ok (.ireturn, 1) := by decide +kernel
theorem own_ef_rmCod_1 (m : MethodId) (x0 : Addr) (x1 : Int32) : entryFrame m #[.ref x0, .int x1] 2 = mkF m 0 #[.val (.ref x0), .val (.int x1)] [] := by first | (simp [entryFrame, mkF, argsToLocals, Value.category]; done) | rfl
def Q_rmCod_1 (Z : State) (zC : Int32) (vF : Value) (hvF : vF.isRef = true) (d : Addr) (kB : ClassId) (b0 : Int32) (h0 : Heap) (n0 : Nat) (vv_ : Option Value) (hh_ : Heap) (LL_ : List Loc) : Prop := vv_ = some (.int 0) ∧ Fr n0 LL_ ∧ hh_ = h0
set_option maxRecDepth 65536 in
set_option maxHeartbeats 40000000 in
theorem rmCod_1 (l : Launch) (Z : State) (a0 : Array Value) (hw : ∀ d ∈ tables_1, d.before a0 Z = true) (ws : List Jvm.Cond) (zC : Int32) (vF : Value) (hvF : vF.isRef = true) (GS : Glob Z zC vF hvF) (d : Addr) (kB : ClassId) (b0 : Int32) (h0 : Heap) (n0 : Nat) (Z0 : n0 ≤ h0.size) (O0 : Old Z n0 h0) (Vd : Arv Z h0 d kB .byte (1 : Int32) [.int b0] (.int 0)) :
  MetFree l (⟨"java/lang/StringUTF16", "coderFromArrayLen", "([BI)B"⟩ : MethodName) (head1 (Jvm.Cond.code (⟨"java/lang/StringUTF16", "coderFromArrayLen", "([BI)B"⟩ : MethodName) jdk_52_method_15_code 2 (some .byte) :: ws) (⟨0, 0, 0, 0⟩ : Room)) (fun aa_ UU_ => aa_ = #[.ref d, .int 1] ∧ Z.Warmed39 UU_.vm ∧ UU_.heap = h0) (fun _ _ _ _ _ => True) (fun _ UU_ oo_ UV_ => ∃ vv_ LL_, oo_ = .returned vv_ ∧ Q_rmCod_1 Z zC vF hvF d kB b0 h0 n0 vv_ UV_.heap LL_ ∧ FrameEnd UU_ oo_ UV_ LL_ (⟨0, 0, 0, 0⟩ : Room).cells (⟨0, 0, 0, 0⟩ : Room).slots) := by
 refine MetFree.of_bodySF (plainFor_of_name own_pn_java_lang_StringUTF16) hisR ?_
 intro p e s m args below meth c s₁ Bd hml0 hP hK
 obtain ⟨rfl, hZ, hh⟩ := hP
 have hx := Bd.exec
 have hby := Bd.bytes
 have hml : c.maxLocals = 2 := hml0
 have hown : s.vm.findClass "java/lang/StringUTF16" = some m.cls := findClass_of_methodNamed Bd.named
 have hnm := (name_of_methodNamed Bd.named Bd.method).1
 have X0 : Stand p l e (⟨0, 0, 0, 0⟩ : Room) s m #[.ref d, .int 1] below meth c s₁ [] 0 0 := Stand.of_body Bd
 have e0 : s₁.heap = h0 := by rw [← hh, Bd.state]; rfl
 have N0 := Fr.nil n0
 have hn0 : Z.heap.size = n0 := O0.1
 have KT0 : Keep h0 h0 [] := Keep.refl _ _
 refine own_enter (Φ := fun oo_ UV_ => ∃ vv_ LL_, oo_ = .returned vv_ ∧ Q_rmCod_1 Z zC vF hvF d kB b0 h0 n0 vv_ UV_.heap LL_ ∧ FrameEnd s oo_ UV_ LL_ (⟨0, 0, 0, 0⟩ : Room).cells (⟨0, 0, 0, 0⟩ : Room).slots) (own_ef_rmCod_1 m d (1 : Int32)) ?_
 refine own_by (T' := s₁) (g' := (mkF m 1 #[.val (.ref d), .val (.int 1)] [.int 1])) (fun _ kt_ => XS.iloadN X0.here hx rfl (hb hby own_d11_0) rfl kt_) ?_
 refine own_by (T' := s₁) (g' := (mkF m 2 #[.val (.ref d), .val (.int 1)] [.ref d, .int 1])) (fun _ kt_ => XS.aloadN X0.here hx rfl (hb hby own_d11_1) rfl rfl kt_) ?_
 obtain ⟨cl1, Ar1, q1, S1, M1, H1, G1⟩ := id Vd
 refine own_by (T' := s₁) (g' := (mkF m 3 #[.val (.ref d), .val (.int 1)] [.int 1, .int 1])) (fun _ kt_ => X0.arraylength hx (by rw [e0]; exact Ar1.1) (State.isArrayOf_alike hZ.alike Ar1.2.1) (g := (mkF m 2 #[.val (.ref d), .val (.int 1)] [.ref d, .int 1])) rfl rfl (hb hby own_d11_2) _ (by rw [len_of S1 M1]; exact kt_)) ?_
 refine own_by (T' := s₁) (g' := (mkF m 4 #[.val (.ref d), .val (.int 1)] [(.int ((1 : Int32) - (1 : Int32)))])) (fun _ kt_ => XS.isub X0.here hx rfl (hb hby own_d11_3) rfl kt_) ?_
 rw [show ((1 : Int32) - (1 : Int32)) = (0 : Int32) from by decide]
 refine own_by (T' := s₁) (g' := (mkF m 6 #[.val (.ref d), .val (.int 1)] [.int 31, .int 0])) (fun _ kt_ => XS.bipush X0.here hx rfl (hb hby own_d11_4) kt_) ?_
 refine own_by (T' := s₁) (g' := (mkF m 7 #[.val (.ref d), .val (.int 1)] [(.int (((0 : Int32).toUInt32 >>> ((31 : Int32) &&& 31).toUInt32).toInt32))])) (fun _ kt_ => XS.iushr X0.here hx rfl (hb hby own_d11_6) rfl kt_) ?_
 refine own_by (T' := s₁) (g' := (mkF m 8 #[.val (.ref d), .val (.int 1)] [(.int (((0 : Int32).toUInt32 >>> ((31 : Int32) &&& 31).toUInt32).toInt32).toInt8.toInt32)])) (fun _ kt_ => XS.i2b X0.here hx rfl (hb hby own_d11_7) rfl kt_) ?_
 have hn2 : nar .byte ((((0 : Int32).toUInt32 >>> ((31 : Int32) &&& 31).toUInt32).toInt32).toInt8.toInt32) = (((0 : Int32).toUInt32 >>> ((31 : Int32) &&& 31).toUInt32).toInt32).toInt8.toInt32 := by decide
 have hr3 : (((0 : Int32).toUInt32 >>> ((31 : Int32) &&& 31).toUInt32).toInt32).toInt8.toInt32 = (0 : Int32) := by decide
 obtain ⟨fs4, hr4, hrun4, hended4, hW4, hsame4⟩ := X0.leave (v := some (.int (nar .byte ((((0 : Int32).toUInt32 >>> ((31 : Int32) &&& 31).toUInt32).toInt32).toInt8.toInt32)))) (fun h => by rw [Bd.returns] at h; cases h)
 refine ⟨_, _, retN X0 hx (t := .byte) Bd.returns (by simp) (hb hby own_d11_8) hr4, hrun4, hended4, _, _, rfl, ?_, ⟨_, rfl⟩, hW4, hsame4.mono (by decide) (by decide)⟩
 show Q_rmCod_1 Z zC vF hvF d kB b0 h0 n0 _ s₁.heap _
 exact ⟨(congrArg (fun z => some (Value.int z)) (hn2.trans hr3)), N0, e0⟩
theorem own_pd_1 : parseMethodDescriptor "([CII)[B" = some ⟨[(.array .char), .int, .int], some (.array .byte)⟩ := by decide +kernel
theorem own_pd_2 : parseMethodDescriptor "([BI)B" = some ⟨[(.array .byte), .int], some .byte⟩ := by decide +kernel
theorem own_d4_0 : decode jdk_42_method_149_code 0 = .ok (.aload_n 0, 1) := by decide +kernel
theorem own_d4_1 : decode jdk_42_method_149_code 1 = .ok (.invokespecial 1, 3) := by decide +kernel
theorem own_d4_4 : decode jdk_42_method_149_code 4 = .ok (.iload_n 3, 1) := by decide +kernel
theorem own_d4_5 : decode jdk_42_method_149_code 5 = .ok (.ifCond .ne 22, 3) := by decide +kernel
theorem own_d4_27 : decode jdk_42_method_149_code 27 = .ok (.getstatic 38, 3) := by decide +kernel
theorem own_d4_30 : decode jdk_42_method_149_code 30 = .ok (.ifCond .eq 28, 3) := by decide +kernel
theorem own_d4_33 : decode jdk_42_method_149_code 33 = .ok (.aload_n 1, 1) := by decide +kernel
theorem own_d4_34 : decode jdk_42_method_149_code 34 = .ok (.iload_n 2, 1) := by decide +kernel
theorem own_d4_35 : decode jdk_42_method_149_code 35 = .ok (.iload_n 3, 1) := by decide +kernel
theorem own_d4_36 : decode jdk_42_method_149_code 36 = .ok (.invokestatic 177, 3) := by decide +kernel
theorem own_d4_39 : decode jdk_42_method_149_code 39 = .ok (.astore 5, 2) := by decide +kernel
theorem own_d4_41 : decode jdk_42_method_149_code 41 = .ok (.aload_n 0, 1) := by decide +kernel
theorem own_d4_42 : decode jdk_42_method_149_code 42 = .ok (.aload 5, 2) := by decide +kernel
theorem own_d4_44 : decode jdk_42_method_149_code 44 = .ok (.iload_n 3, 1) := by decide +kernel
theorem own_d4_45 : decode jdk_42_method_149_code 45 = .ok (.invokestatic 47, 3) := by decide +kernel
theorem own_d4_48 : decode jdk_42_method_149_code 48 = .ok (.putfield 15, 3) := by decide +kernel
theorem own_d4_51 : decode jdk_42_method_149_code 51 = .ok (.aload_n 0, 1) := by decide +kernel
theorem own_d4_52 : decode jdk_42_method_149_code 52 = .ok (.aload 5, 2) := by decide +kernel
theorem own_d4_54 : decode jdk_42_method_149_code 54 = .ok (.putfield 9, 3) := by decide +kernel
theorem own_d4_57 : decode jdk_42_method_149_code 57 = .ok (.return_, 1) := by decide +kernel
theorem own_pn_java_lang_String : plainName "java/lang/String" = true := by first | (simp [plainName, overriddenIn]; done) | decide +kernel
theorem own_ef_rmS4_1 (m : MethodId) (x0 : Addr) (x1 : Addr) (x2 : Int32) (x3 : Int32) : entryFrame m #[.ref x0, .ref x1, .int x2, .int x3, .null] 6 = mkF m 0 #[.val (.ref x0), .val (.ref x1), .val (.int x2), .val (.int x3), .val .null, .unset] [] := by first | (simp [entryFrame, mkF, argsToLocals, Value.category]; done) | rfl
def Q_rmS4_1 (Z : State) (zC : Int32) (vF : Value) (hvF : vF.isRef = true) (x : Addr) (b : Addr) (kC : ClassId) (c0 : Int32) (h0 : Heap) (n0 : Nat) (vv_ : Option Value) (hh_ : Heap) (LL_ : List Loc) : Prop := ∃ t : Addr, ∃ kB : ClassId, vv_ = none ∧ Fr n0 LL_ ∧ Keep h0 hh_ [x] ∧ h0.size ≤ t ∧ Fld Z hh_ x "java/lang/String" "value" "[B" (.ref t) ∧ Fld Z hh_ x "java/lang/String" "coder" "B" (.int 0) ∧ Arv Z hh_ t kB .byte (1 : Int32) [(.int c0.toInt8.toInt32)] (.int 0)
set_option maxRecDepth 65536 in
set_option maxHeartbeats 40000000 in
theorem rmS4_1 (l : Launch) (Z : State) (a0 : Array Value) (hw : ∀ d ∈ tables_1, d.before a0 Z = true) (ws : List Jvm.Cond) (zC : Int32) (vF : Value) (hvF : vF.isRef = true) (GS : Glob Z zC vF hvF) (x : Addr) (b : Addr) (kC : ClassId) (c0 : Int32) (h0 : Heap) (n0 : Nat) (Z0 : n0 ≤ h0.size) (O0 : Old Z n0 h0) (E_x : Exa Z h0 x "java/lang/String") (g_x : n0 ≤ x) (Fv : Fld Z h0 x "java/lang/String" "value" "[B" .null) (Fc : Fld Z h0 x "java/lang/String" "coder" "B" (.int 0)) (Vb : Arv Z h0 b kC .char (1 : Int32) [.int c0] (.int 0)) (hbx : b ≠ x) (hp0 : ¬ (255 : Int32) < c0) :
  MetFree l (⟨"java/lang/String", "<init>", "([CIILjava/lang/Void;)V"⟩ : MethodName) (head1 (Jvm.Cond.code (⟨"java/lang/String", "<init>", "([CIILjava/lang/Void;)V"⟩ : MethodName) jdk_42_method_149_code 6 none :: ws) (⟨2, 1, 1, 35⟩ : Room)) (fun aa_ UU_ => aa_ = #[.ref x, .ref b, .int 0, .int 1, .null] ∧ Z.Warmed39 UU_.vm ∧ UU_.heap = h0) (fun _ _ _ _ _ => True) (fun _ UU_ oo_ UV_ => ∃ vv_ LL_, oo_ = .returned vv_ ∧ Q_rmS4_1 Z zC vF hvF x b kC c0 h0 n0 vv_ UV_.heap LL_ ∧ FrameEnd UU_ oo_ UV_ LL_ (⟨2, 1, 1, 35⟩ : Room).cells (⟨2, 1, 1, 35⟩ : Room).slots) := by
 refine MetFree.of_bodySF (plainFor_of_name own_pn_java_lang_String) hisR ?_
 intro p e s m args below meth c s₁ Bd hml0 hP hK
 obtain ⟨rfl, hZ, hh⟩ := hP
 have hx := Bd.exec
 have hby := Bd.bytes
 have hml : c.maxLocals = 6 := hml0
 have hown : s.vm.findClass "java/lang/String" = some m.cls := findClass_of_methodNamed Bd.named
 have hnm := (name_of_methodNamed Bd.named Bd.method).1
 have X0 : Stand p l e (⟨2, 1, 1, 35⟩ : Room) s m #[.ref x, .ref b, .int 0, .int 1, .null] below meth c s₁ [] 0 0 := Stand.of_body Bd
 have e0 : s₁.heap = h0 := by rw [← hh, Bd.state]; rfl
 have N0 := Fr.nil n0
 have hn0 : Z.heap.size = n0 := O0.1
 have KT0 : Keep h0 h0 [x] := Keep.refl _ _
 refine own_enter (Φ := fun oo_ UV_ => ∃ vv_ LL_, oo_ = .returned vv_ ∧ Q_rmS4_1 Z zC vF hvF x b kC c0 h0 n0 vv_ UV_.heap LL_ ∧ FrameEnd s oo_ UV_ LL_ (⟨2, 1, 1, 35⟩ : Room).cells (⟨2, 1, 1, 35⟩ : Room).slots) (own_ef_rmS4_1 m x b (0 : Int32) (1 : Int32)) ?_
 have ne1 : b ≠ x := hbx
 refine own_by (T' := s₁) (g' := (mkF m 1 #[.val (.ref x), .val (.ref b), .val (.int 0), .val (.int 1), .val .null, .unset] [.ref x])) (fun _ kt_ => XS.aloadN X0.here hx rfl (hb hby own_d4_0) rfl rfl kt_) ?_
 obtain ⟨T2, X2, e2, st2⟩ := initO X0 hx hZ hown (ww hw 18 rfl) (ww hw 19 rfl) (ww hw 20 rfl) e0 (g := (mkF m 1 #[.val (.ref x), .val (.ref b), .val (.int 0), .val (.int 1), .val .null, .unset] [.ref x])) rfl (by rw [hml]; rfl) rfl (hb hby own_d4_1) (by decide) (W := 0) (by show 2 * 0 + _ ≤ _; exact Nat.le_of_eq rfl) (by decide)
 refine own_by (T' := T2) (g' := (mkF m 4 #[.val (.ref x), .val (.ref b), .val (.int 0), .val (.int 1), .val .null, .unset] [])) st2 ?_
 refine own_by (T' := T2) (g' := (mkF m 5 #[.val (.ref x), .val (.ref b), .val (.int 0), .val (.int 1), .val .null, .unset] [.int 1])) (fun _ kt_ => XS.iloadN X2.here hx rfl (hb hby own_d4_4) rfl kt_) ?_
 refine own_by (T' := T2) (g' := (mkF m 27 #[.val (.ref x), .val (.ref b), .val (.int 0), .val (.int 1), .val .null, .unset] [])) (fun _ kt_ => XS.ifYes X2.here hx rfl (pc0 := 5) (pc' := 27) rfl (hb hby own_d4_5) rfl (XT.i0_ne_t (by decide)) (by decide) (by decide) kt_) ?_
 have f3 := GS.1.ext O0.2
 obtain ⟨T4, X4, e4, st4⟩ := getS2 X2 hx hZ hown (host := "") (Or.inl (ww hw 43 rfl)) Via.refl e2 f3 (g := (mkF m 27 #[.val (.ref x), .val (.ref b), .val (.int 0), .val (.int 1), .val .null, .unset] [])) rfl (hb hby own_d4_27)
 refine own_by (T' := T4) (g' := (mkF m 30 #[.val (.ref x), .val (.ref b), .val (.int 0), .val (.int 1), .val .null, .unset] [.int zC])) st4 ?_
 refine own_by (T' := T4) (g' := (mkF m 33 #[.val (.ref x), .val (.ref b), .val (.int 0), .val (.int 1), .val .null, .unset] [])) (fun _ kt_ => XS.ifNo X4.here hx rfl (hb hby own_d4_30) rfl (XT.i0_eq_f GS.2.1) kt_) ?_
 refine own_by (T' := T4) (g' := (mkF m 34 #[.val (.ref x), .val (.ref b), .val (.int 0), .val (.int 1), .val .null, .unset] [.ref b])) (fun _ kt_ => XS.aloadN X4.here hx rfl (hb hby own_d4_33) rfl rfl kt_) ?_
 refine own_by (T' := T4) (g' := (mkF m 35 #[.val (.ref x), .val (.ref b), .val (.int 0), .val (.int 1), .val .null, .unset] [.int 0, .ref b])) (fun _ kt_ => XS.iloadN X4.here hx rfl (hb hby own_d4_34) rfl kt_) ?_
 refine own_by (T' := T4) (g' := (mkF m 36 #[.val (.ref x), .val (.ref b), .val (.int 0), .val (.int 1), .val .null, .unset] [.int 1, .int 0, .ref b])) (fun _ kt_ => XS.iloadN X4.here hx rfl (hb hby own_d4_35) rfl kt_) ?_
 obtain ⟨_, _, ⟨T5, L5, k5, n5⟩, -, X5, ⟨Lc5, hQ5, l5, y5, z5⟩, st5⟩ := Jvm.LawKit.callS X4 hx (y := (⟨"java/lang/StringUTF16", "compress", "([CII)[B"⟩ : MethodName)) hown (mvT hZ (ww hw 44 rfl)) (mvT hZ (ww hw 45 rfl)) (mvT hZ (ww hw 46 rfl)) (mvT hZ (ww hw 47 rfl)) (by decide) (backOf (W := 0) (rmC3_1 l Z a0 hw [] zC vF hvF GS b kC c0 h0 n0 (by omega) O0 Vb hp0) hZ (ww hw 47 rfl) (ww hw 46 rfl) (by decide) (by decide)) (g := (mkF m 36 #[.val (.ref x), .val (.ref b), .val (.int 0), .val (.int 1), .val .null, .unset] [.int 1, .int 0, .ref b])) rfl (by rw [hml]; rfl) (argsL := [.ref b, .int 0, .int 1]) (rest := []) (lenOf own_pd_1 rfl) rfl (by show 2 * 0 + _ ≤ _; exact Nat.le_of_eq rfl) (hb hby own_d4_36) (fun _ _ => ⟨rfl, e4, (by decide : 0 + 1 ≤ _), (by decide : 0 + 1 ≤ _)⟩)
 dsimp only [Pt.U, Pt.locs, Pt.cells, Pt.slots] at X5 l5 y5 z5 st5 hQ5
 subst l5 y5 z5
 obtain ⟨d_6, kB_7, rfl, N5q, K5, p5_0, p5_1⟩ := hQ5
 have N8 := Fr.app N0 N5q
 have gd_6 : h0.size ≤ d_6 := p5_0
 have zzK5 : h0.size ≤ T5.heap.size := K5.1
 have oo9 : Old Z n0 T5.heap := O0.keep K5 all0
 have kt10 : Keep h0 T5.heap [x] := KT0.trans K5 all0
 refine own_by (T' := T5) (g' := (mkF m 39 #[.val (.ref x), .val (.ref b), .val (.int 0), .val (.int 1), .val .null, .unset] [.ref d_6])) st5 ?_
 refine own_by (T' := T5) (g' := (mkF m 41 #[.val (.ref x), .val (.ref b), .val (.int 0), .val (.int 1), .val .null, .val (.ref d_6)] [])) (fun _ kt_ => XS.astore X5.here hx rfl (hb hby own_d4_39) rfl rfl (l' := #[.val (.ref x), .val (.ref b), .val (.int 0), .val (.int 1), .val .null, .val (.ref d_6)]) rfl kt_) ?_
 refine own_by (T' := T5) (g' := (mkF m 42 #[.val (.ref x), .val (.ref b), .val (.int 0), .val (.int 1), .val .null, .val (.ref d_6)] [.ref x])) (fun _ kt_ => XS.aloadN X5.here hx rfl (hb hby own_d4_41) rfl rfl kt_) ?_
 refine own_by (T' := T5) (g' := (mkF m 44 #[.val (.ref x), .val (.ref b), .val (.int 0), .val (.int 1), .val .null, .val (.ref d_6)] [.ref d_6, .ref x])) (fun _ kt_ => XS.aload X5.here hx rfl (hb hby own_d4_42) rfl rfl kt_) ?_
 refine own_by (T' := T5) (g' := (mkF m 45 #[.val (.ref x), .val (.ref b), .val (.int 0), .val (.int 1), .val .null, .val (.ref d_6)] [.int 1, .ref d_6, .ref x])) (fun _ kt_ => XS.iloadN X5.here hx rfl (hb hby own_d4_44) rfl kt_) ?_
 obtain ⟨_, _, ⟨T11, L11, k11, n11⟩, -, X11, ⟨Lc11, hQ11, l11, y11, z11⟩, st11⟩ := Jvm.LawKit.callS X5 hx (y := (⟨"java/lang/StringUTF16", "coderFromArrayLen", "([BI)B"⟩ : MethodName)) hown (mvT hZ (ww hw 51 rfl)) (mvT hZ (ww hw 52 rfl)) (mvT hZ (ww hw 46 rfl)) (mvT hZ (ww hw 53 rfl)) (by decide) (backOf (W := 1) (rmCod_1 l Z a0 hw [] zC vF hvF GS d_6 kB_7 c0.toInt8.toInt32 T5.heap n0 (by omega) oo9 p5_1) hZ (ww hw 53 rfl) (ww hw 46 rfl) (by decide) (by decide)) (g := (mkF m 45 #[.val (.ref x), .val (.ref b), .val (.int 0), .val (.int 1), .val .null, .val (.ref d_6)] [.int 1, .ref d_6, .ref x])) rfl (by rw [hml]; rfl) (argsL := [.ref d_6, .int 1]) (rest := [.ref x]) (lenOf own_pd_2 rfl) rfl (by show 2 * 0 + _ ≤ _; exact Nat.le_of_eq rfl) (hb hby own_d4_45) (fun _ _ => ⟨rfl, rfl, (by decide : 1 + 0 ≤ _), (by decide : 1 + 0 ≤ _)⟩)
 dsimp only [Pt.U, Pt.locs, Pt.cells, Pt.slots] at X11 l11 y11 z11 st11 hQ11
 subst l11 y11 z11
 obtain ⟨rfl, N11q, e11⟩ := hQ11
 have N12 := Fr.app N8 N11q
 refine own_by (T' := T11) (g' := (mkF m 48 #[.val (.ref x), .val (.ref b), .val (.int 0), .val (.int 1), .val .null, .val (.ref d_6)] [.int 0, .ref x])) st11 ?_
 have f13 : Exa Z T5.heap x "java/lang/String" := (E_x.keep K5)
 have f14 : Fld Z T5.heap x "java/lang/String" "coder" "B" (.int 0) := (Fc.keep K5 nin0)
 obtain ⟨T15, h15, X15, e15, W15, st15⟩ := putFN X11 hx hZ hown (ww hw 28 rfl) Via.refl e11 f14 f13 (Or.inr ⟨(ww hw 24 rfl), rfl, hnm⟩) (ww hw 8 rfl) (ty := .byte) (v' := (.int (0 : Int32).toInt8.toInt32)) (by decide) rfl (fits_nar_byte _) (g := (mkF m 48 #[.val (.ref x), .val (.ref b), .val (.int 0), .val (.int 1), .val .null, .val (.ref d_6)] [.int 0, .ref x])) rfl rfl (hb hby own_d4_48)
 have K16 : Keep T5.heap h15 [x] := Keep.of_wr W15
 have f17 : Fld Z T5.heap x "java/lang/String" "value" "[B" .null := (Fv.keep K5 nin0)
 have zzK16 : T5.heap.size ≤ h15.size := K16.1
 have oo18 : Old Z n0 h15 := oo9.keep K16 (allS (by omega : n0 ≤ x) all0)
 have kt19 : Keep h0 h15 [x] := kt10.trans K16 (allS (Or.inl (List.mem_of_getElem? (i := 0) rfl)) all0)
 have f20 : Fld Z h15 x "java/lang/String" "value" "[B" .null := f17.other W15 (Or.inr (slot_ne (Or.inr (ww hw 23 rfl)) (Or.inr (ww hw 24 rfl)) (by decide) (t := (.array .byte)) (t' := .byte) (by decide) (by decide)))
 have f21 : Fld Z h15 x "java/lang/String" "coder" "B" (.int (0 : Int32).toInt8.toInt32) := f14.same W15
 have N22 := Fr.snoc X15 N12 (by omega : n0 ≤ x)
 refine own_by (T' := T15) (g' := (mkF m 51 #[.val (.ref x), .val (.ref b), .val (.int 0), .val (.int 1), .val .null, .val (.ref d_6)] [])) st15 ?_
 refine own_by (T' := T15) (g' := (mkF m 52 #[.val (.ref x), .val (.ref b), .val (.int 0), .val (.int 1), .val .null, .val (.ref d_6)] [.ref x])) (fun _ kt_ => XS.aloadN X15.here hx rfl (hb hby own_d4_51) rfl rfl kt_) ?_
 refine own_by (T' := T15) (g' := (mkF m 54 #[.val (.ref x), .val (.ref b), .val (.int 0), .val (.int 1), .val .null, .val (.ref d_6)] [.ref d_6, .ref x])) (fun _ kt_ => XS.aload X15.here hx rfl (hb hby own_d4_52) rfl rfl kt_) ?_
 have f23 : Exa Z h15 x "java/lang/String" := (f13.keep K16)
 obtain ⟨T24, h24, X24, e24, W24, st24⟩ := putF X15 hx hZ hown (host := "") (Or.inl (ww hw 27 rfl)) Via.refl e15 f20 f23 (Or.inr ⟨(ww hw 23 rfl), rfl, hnm⟩) (ww hw 8 rfl) (ty := (.array .byte)) (by decide) rfl rfl (g := (mkF m 54 #[.val (.ref x), .val (.ref b), .val (.int 0), .val (.int 1), .val .null, .val (.ref d_6)] [.ref d_6, .ref x])) rfl rfl (hb hby own_d4_54)
 have K25 : Keep h15 h24 [x] := Keep.of_wr W24
 have zzK25 : h15.size ≤ h24.size := K25.1
 have oo26 : Old Z n0 h24 := oo18.keep K25 (allS (by omega : n0 ≤ x) all0)
 have kt27 : Keep h0 h24 [x] := kt19.trans K25 (allS (Or.inl (List.mem_of_getElem? (i := 0) rfl)) all0)
 have f28 : Fld Z h24 x "java/lang/String" "value" "[B" (.ref d_6) := f20.same W24
 have f29 : Fld Z h24 x "java/lang/String" "coder" "B" (.int (0 : Int32).toInt8.toInt32) := f21.other W24 (Or.inr (slot_ne (Or.inr (ww hw 24 rfl)) (Or.inr (ww hw 23 rfl)) (by decide) (t := .byte) (t' := (.array .byte)) (by decide) (by decide)))
 have N30 := Fr.snoc X24 N22 (by omega : n0 ≤ x)
 refine own_by (T' := T24) (g' := (mkF m 57 #[.val (.ref x), .val (.ref b), .val (.int 0), .val (.int 1), .val .null, .val (.ref d_6)] [])) st24 ?_
 have la31 : @LT.lt Nat instLTNat d_6 T5.heap.size := p5_1.lt
 have hv32 : ((.int (0 : Int32).toInt8.toInt32) : Value) = (.int 0) := rfl
 have la33 : @LT.lt Nat instLTNat x h0.size := E_x.lt
 have ne34 : @Ne Nat d_6 x := by omega
 have f35 : Arv Z h24 d_6 kB_7 .byte (1 : Int32) [(.int c0.toInt8.toInt32)] (.int 0) := ((p5_1.keep K16 (ninS ne34 nin0)).keep K25 (ninS ne34 nin0))
 obtain ⟨fs36, hr36, hrun36, hended36, hW36, hsame36⟩ := X24.leave (v := none) (fun _ => rfl)
 refine ⟨_, _, X24.returnOut hx Bd.returns (hb hby own_d4_57) hr36, hrun36, hended36, _, _, rfl, ?_, ⟨_, rfl⟩, hW36, hsame36.mono (by decide) (by decide)⟩
 show Q_rmS4_1 Z zC vF hvF x b kC c0 h0 n0 _ T24.heap _
 rw [e24]
 exact ⟨d_6, kB_7, rfl, N30, kt27, (by omega), f28, (hv32 ▸ f29), f35⟩
theorem own_pd_3 : parseMethodDescriptor "([CIILjava/lang/Void;)V" = some ⟨[(.array .char), .int, .int, (.object "java/lang/Void")], none⟩ := by decide +kernel
theorem own_d3_0 : decode jdk_42_method_3_code 0 = .ok (.aload_n 0, 1) := by decide +kernel
theorem own_d3_1 : decode jdk_42_method_3_code 1 = .ok (.aload_n 1, 1) := by decide +kernel
theorem own_d3_2 : decode jdk_42_method_3_code 2 = .ok (.iconst 0, 1) := by decide +kernel
theorem own_d3_3 : decode jdk_42_method_3_code 3 = .ok (.aload_n 1, 1) := by decide +kernel
theorem own_d3_4 : decode jdk_42_method_3_code 4 = .ok (.arraylength, 1) := by decide +kernel
theorem own_d3_5 : decode jdk_42_method_3_code 5 = .ok (.aconst_null, 1) := by decide +kernel
theorem own_d3_6 : decode jdk_42_method_3_code 6 = .ok (.invokespecial 27, 3) := by decide +kernel
theorem own_d3_9 : decode jdk_42_method_3_code 9 = .ok (.return_, 1) := by decide +kernel
theorem own_ef_rmS1_1 (m : MethodId) (x0 : Addr) (x1 : Addr) : entryFrame m #[.ref x0, .ref x1] 2 = mkF m 0 #[.val (.ref x0), .val (.ref x1)] [] := by first | (simp [entryFrame, mkF, argsToLocals, Value.category]; done) | rfl
def Q_rmS1_1 (Z : State) (zC : Int32) (vF : Value) (hvF : vF.isRef = true) (x : Addr) (b : Addr) (kC : ClassId) (c0 : Int32) (h0 : Heap) (n0 : Nat) (vv_ : Option Value) (hh_ : Heap) (LL_ : List Loc) : Prop := ∃ t : Addr, ∃ kB : ClassId, vv_ = none ∧ Fr n0 LL_ ∧ Keep h0 hh_ [x] ∧ h0.size ≤ t ∧ Fld Z hh_ x "java/lang/String" "value" "[B" (.ref t) ∧ Fld Z hh_ x "java/lang/String" "coder" "B" (.int 0) ∧ Arv Z hh_ t kB .byte (1 : Int32) [(.int c0.toInt8.toInt32)] (.int 0)
set_option maxRecDepth 65536 in
set_option maxHeartbeats 40000000 in
theorem rmS1_1 (l : Launch) (Z : State) (a0 : Array Value) (hw : ∀ d ∈ tables_1, d.before a0 Z = true) (ws : List Jvm.Cond) (zC : Int32) (vF : Value) (hvF : vF.isRef = true) (GS : Glob Z zC vF hvF) (x : Addr) (b : Addr) (kC : ClassId) (c0 : Int32) (h0 : Heap) (n0 : Nat) (Z0 : n0 ≤ h0.size) (O0 : Old Z n0 h0) (E_x : Exa Z h0 x "java/lang/String") (g_x : n0 ≤ x) (Fv : Fld Z h0 x "java/lang/String" "value" "[B" .null) (Fc : Fld Z h0 x "java/lang/String" "coder" "B" (.int 0)) (Vb : Arv Z h0 b kC .char (1 : Int32) [.int c0] (.int 0)) (hbx : b ≠ x) (hp0 : ¬ (255 : Int32) < c0) :
  MetFree l (⟨"java/lang/String", "<init>", "([C)V"⟩ : MethodName) (head1 (Jvm.Cond.code (⟨"java/lang/String", "<init>", "([C)V"⟩ : MethodName) jdk_42_method_3_code 2 none :: ws) (⟨3, 1, 1, 52⟩ : Room)) (fun aa_ UU_ => aa_ = #[.ref x, .ref b] ∧ Z.Warmed39 UU_.vm ∧ UU_.heap = h0) (fun _ _ _ _ _ => True) (fun _ UU_ oo_ UV_ => ∃ vv_ LL_, oo_ = .returned vv_ ∧ Q_rmS1_1 Z zC vF hvF x b kC c0 h0 n0 vv_ UV_.heap LL_ ∧ FrameEnd UU_ oo_ UV_ LL_ (⟨3, 1, 1, 52⟩ : Room).cells (⟨3, 1, 1, 52⟩ : Room).slots) := by
 refine MetFree.of_bodySF (plainFor_of_name own_pn_java_lang_String) hisR ?_
 intro p e s m args below meth c s₁ Bd hml0 hP hK
 obtain ⟨rfl, hZ, hh⟩ := hP
 have hx := Bd.exec
 have hby := Bd.bytes
 have hml : c.maxLocals = 2 := hml0
 have hown : s.vm.findClass "java/lang/String" = some m.cls := findClass_of_methodNamed Bd.named
 have hnm := (name_of_methodNamed Bd.named Bd.method).1
 have X0 : Stand p l e (⟨3, 1, 1, 52⟩ : Room) s m #[.ref x, .ref b] below meth c s₁ [] 0 0 := Stand.of_body Bd
 have e0 : s₁.heap = h0 := by rw [← hh, Bd.state]; rfl
 have N0 := Fr.nil n0
 have hn0 : Z.heap.size = n0 := O0.1
 have KT0 : Keep h0 h0 [x] := Keep.refl _ _
 refine own_enter (Φ := fun oo_ UV_ => ∃ vv_ LL_, oo_ = .returned vv_ ∧ Q_rmS1_1 Z zC vF hvF x b kC c0 h0 n0 vv_ UV_.heap LL_ ∧ FrameEnd s oo_ UV_ LL_ (⟨3, 1, 1, 52⟩ : Room).cells (⟨3, 1, 1, 52⟩ : Room).slots) (own_ef_rmS1_1 m x b) ?_
 have ne1 : b ≠ x := hbx
 refine own_by (T' := s₁) (g' := (mkF m 1 #[.val (.ref x), .val (.ref b)] [.ref x])) (fun _ kt_ => XS.aloadN X0.here hx rfl (hb hby own_d3_0) rfl rfl kt_) ?_
 refine own_by (T' := s₁) (g' := (mkF m 2 #[.val (.ref x), .val (.ref b)] [.ref b, .ref x])) (fun _ kt_ => XS.aloadN X0.here hx rfl (hb hby own_d3_1) rfl rfl kt_) ?_
 refine own_by (T' := s₁) (g' := (mkF m 3 #[.val (.ref x), .val (.ref b)] [.int 0, .ref b, .ref x])) (fun _ kt_ => XS.iconst X0.here hx rfl (hb hby own_d3_2) kt_) ?_
 refine own_by (T' := s₁) (g' := (mkF m 4 #[.val (.ref x), .val (.ref b)] [.ref b, .int 0, .ref b, .ref x])) (fun _ kt_ => XS.aloadN X0.here hx rfl (hb hby own_d3_3) rfl rfl kt_) ?_
 obtain ⟨cl2, Ar2, q2, S2, M2, H2, G2⟩ := id Vb
 refine own_by (T' := s₁) (g' := (mkF m 5 #[.val (.ref x), .val (.ref b)] [.int 1, .int 0, .ref b, .ref x])) (fun _ kt_ => X0.arraylength hx (by rw [e0]; exact Ar2.1) (State.isArrayOf_alike hZ.alike Ar2.2.1) (g := (mkF m 4 #[.val (.ref x), .val (.ref b)] [.ref b, .int 0, .ref b, .ref x])) rfl rfl (hb hby own_d3_4) _ (by rw [len_of S2 M2]; exact kt_)) ?_
 refine own_by (T' := s₁) (g' := (mkF m 6 #[.val (.ref x), .val (.ref b)] [.null, .int 1, .int 0, .ref b, .ref x])) (fun _ kt_ => XS.aconstNull X0.here hx rfl (hb hby own_d3_5) kt_) ?_
 have la3 : @LT.lt Nat instLTNat x h0.size := E_x.lt
 obtain ⟨_, _, ⟨T4, L4, k4, n4⟩, -, X4, ⟨Lc4, hQ4, l4, y4, z4⟩, st4⟩ := X0.specialBack hx (y := (⟨"java/lang/String", "<init>", "([CIILjava/lang/Void;)V"⟩ : MethodName)) rfl hown (mvT hZ (ww hw 14 rfl)) (mvT hZ (ww hw 15 rfl)) (mvT hZ (ww hw 17 rfl)) (by decide) (backOf (W := 0) (rmS4_1 l Z a0 hw [] zC vF hvF GS x b kC c0 h0 n0 (by omega) O0 E_x (by omega) Fv Fc Vb hbx hp0) hZ (ww hw 17 rfl) (ww hw 9 rfl) (by decide) (by decide)) (g := (mkF m 6 #[.val (.ref x), .val (.ref b)] [.null, .int 1, .int 0, .ref b, .ref x])) rfl (by rw [hml]; rfl) (Steps.refl _) (a := x) (argsL := [.ref b, .int 0, .int 1, .null]) (rest := []) (lenOf own_pd_3 rfl) rfl (by show 2 * 0 + _ ≤ _; exact Nat.le_of_eq rfl) (hb hby own_d3_6) (fun _ _ => ⟨rfl, e0, (by decide : 0 + 1 ≤ _), (by decide : 0 + 1 ≤ _)⟩)
 dsimp only [Pt.U, Pt.locs, Pt.cells, Pt.slots] at X4 l4 y4 z4 st4 hQ4
 subst l4 y4 z4
 obtain ⟨t_5, kB_6, rfl, N4q, K4, p4_0, p4_1, p4_2, p4_3⟩ := hQ4
 have N7 := Fr.app N0 N4q
 have gt_5 : h0.size ≤ t_5 := p4_0
 have zzK4 : h0.size ≤ T4.heap.size := K4.1
 have oo8 : Old Z n0 T4.heap := O0.keep K4 (allS (by omega : n0 ≤ x) all0)
 have kt9 : Keep h0 T4.heap [x] := KT0.trans K4 (allS (Or.inl (List.mem_of_getElem? (i := 0) rfl)) all0)
 refine own_by (T' := T4) (g' := (mkF m 9 #[.val (.ref x), .val (.ref b)] [])) (fun _ kt_ => st4.trans kt_) ?_
 have la10 : @LT.lt Nat instLTNat t_5 T4.heap.size := p4_3.lt
 obtain ⟨fs11, hr11, hrun11, hended11, hW11, hsame11⟩ := X4.leave (v := none) (fun _ => rfl)
 refine ⟨_, _, X4.returnOut hx Bd.returns (hb hby own_d3_9) hr11, hrun11, hended11, _, _, rfl, ?_, ⟨_, rfl⟩, hW11, hsame11.mono (by decide) (by decide)⟩
 show Q_rmS1_1 Z zC vF hvF x b kC c0 h0 n0 _ T4.heap _
 exact ⟨t_5, kB_6, rfl, N7, kt9, (by omega), p4_1, p4_2, p4_3⟩
theorem own_ef_rmC5_2 (m : MethodId) (x0 : Addr) (x1 : Int32) (x2 : Addr) (x3 : Int32) (x4 : Int32) : entryFrame m #[.ref x0, .int x1, .ref x2, .int x3, .int x4] 7 = mkF m 0 #[.val (.ref x0), .val (.int x1), .val (.ref x2), .val (.int x3), .val (.int x4), .unset, .unset] [] := by first | (simp [entryFrame, mkF, argsToLocals, Value.category]; done) | rfl
def Q_rmC5_2 (Z : State) (zC : Int32) (vF : Value) (hvF : vF.isRef = true) (b : Addr) (d : Addr) (kC : ClassId) (kB : ClassId) (c0 : Int32) (c1 : Int32) (h0 : Heap) (n0 : Nat) (vv_ : Option Value) (hh_ : Heap) (LL_ : List Loc) : Prop := vv_ = some (.int 2) ∧ Fr n0 LL_ ∧ Keep h0 hh_ [d] ∧ Arv Z hh_ d kB .byte (2 : Int32) [(.int c0.toInt8.toInt32), (.int c1.toInt8.toInt32)] (.int 0)
set_option maxRecDepth 65536 in
set_option maxHeartbeats 40000000 in
theorem rmC5_2 (l : Launch) (Z : State) (a0 : Array Value) (hw : ∀ d ∈ tables_1, d.before a0 Z = true) (ws : List Jvm.Cond) (zC : Int32) (vF : Value) (hvF : vF.isRef = true) (GS : Glob Z zC vF hvF) (b : Addr) (d : Addr) (kC : ClassId) (kB : ClassId) (c0 : Int32) (c1 : Int32) (h0 : Heap) (n0 : Nat) (Z0 : n0 ≤ h0.size) (O0 : Old Z n0 h0) (Vb : Arv Z h0 b kC .char (2 : Int32) [.int c0, .int c1] (.int 0)) (Vd : Arv Z h0 d kB .byte (2 : Int32) [.int 0, .int 0] (.int 0)) (gd : n0 ≤ d) (hbd : b ≠ d) (hp0 : ¬ (255 : Int32) < c0) (hp1 : ¬ (255 : Int32) < c1) :
  MetFree l (⟨"java/lang/StringUTF16", "compress", "([CI[BII)I"⟩ : MethodName) (head1 (Jvm.Cond.code (⟨"java/lang/StringUTF16", "compress", "([CI[BII)I"⟩ : MethodName) jdk_52_method_21_code 7 (some .int) :: ws) (⟨0, 0, 0, 0⟩ : Room)) (fun aa_ UU_ => aa_ = #[.ref b, .int 0, .ref d, .int 0, .int 2] ∧ Z.Warmed39 UU_.vm ∧ UU_.heap = h0) (fun _ _ _ _ _ => True) (fun _ UU_ oo_ UV_ => ∃ vv_ LL_, oo_ = .returned vv_ ∧ Q_rmC5_2 Z zC vF hvF b d kC kB c0 c1 h0 n0 vv_ UV_.heap LL_ ∧ FrameEnd UU_ oo_ UV_ LL_ (⟨0, 0, 0, 0⟩ : Room).cells (⟨0, 0, 0, 0⟩ : Room).slots) := by
 refine MetFree.of_bodySF (plainFor_of_name own_pn_java_lang_StringUTF16) hisR ?_
 intro p e s m args below meth c s₁ Bd hml0 hP hK
 obtain ⟨rfl, hZ, hh⟩ := hP
 have hx := Bd.exec
 have hby := Bd.bytes
 have hml : c.maxLocals = 7 := hml0
 have hown : s.vm.findClass "java/lang/StringUTF16" = some m.cls := findClass_of_methodNamed Bd.named
 have hnm := (name_of_methodNamed Bd.named Bd.method).1
 have X0 : Stand p l e (⟨0, 0, 0, 0⟩ : Room) s m #[.ref b, .int 0, .ref d, .int 0, .int 2] below meth c s₁ [] 0 0 := Stand.of_body Bd
 have e0 : s₁.heap = h0 := by rw [← hh, Bd.state]; rfl
 have N0 := Fr.nil n0
 have hn0 : Z.heap.size = n0 := O0.1
 have KT0 : Keep h0 h0 [d] := Keep.refl _ _
 refine own_enter (Φ := fun oo_ UV_ => ∃ vv_ LL_, oo_ = .returned vv_ ∧ Q_rmC5_2 Z zC vF hvF b d kC kB c0 c1 h0 n0 vv_ UV_.heap LL_ ∧ FrameEnd s oo_ UV_ LL_ (⟨0, 0, 0, 0⟩ : Room).cells (⟨0, 0, 0, 0⟩ : Room).slots) (own_ef_rmC5_2 m b (0 : Int32) d (0 : Int32) (2 : Int32)) ?_
 have ne1 : b ≠ d := hbd
 refine own_by (T' := s₁) (g' := (mkF m 1 #[.val (.ref b), .val (.int 0), .val (.ref d), .val (.int 0), .val (.int 2), .unset, .unset] [.int 0])) (fun _ kt_ => XS.iconst X0.here hx rfl (hb hby own_d10_0) kt_) ?_
 refine own_by (T' := s₁) (g' := (mkF m 3 #[.val (.ref b), .val (.int 0), .val (.ref d), .val (.int 0), .val (.int 2), .val (.int 0), .unset] [])) (fun _ kt_ => XS.istore X0.here hx rfl (hb hby own_d10_1) rfl (l' := #[.val (.ref b), .val (.int 0), .val (.ref d), .val (.int 0), .val (.int 2), .val (.int 0), .unset]) rfl kt_) ?_
 refine own_by (T' := s₁) (g' := (mkF m 5 #[.val (.ref b), .val (.int 0), .val (.ref d), .val (.int 0), .val (.int 2), .val (.int 0), .unset] [.int 0])) (fun _ kt_ => XS.iload X0.here hx rfl (hb hby own_d10_3) rfl kt_) ?_
 refine own_by (T' := s₁) (g' := (mkF m 7 #[.val (.ref b), .val (.int 0), .val (.ref d), .val (.int 0), .val (.int 2), .val (.int 0), .unset] [.int 2, .int 0])) (fun _ kt_ => XS.iload X0.here hx rfl (hb hby own_d10_5) rfl kt_) ?_
 refine own_by (T' := s₁) (g' := (mkF m 10 #[.val (.ref b), .val (.int 0), .val (.ref d), .val (.int 0), .val (.int 2), .val (.int 0), .unset] [])) (fun _ kt_ => XS.icmpNo X0.here hx rfl (hb hby own_d10_7) rfl (XT.ii_ge_f (by decide)) kt_) ?_
 refine own_by (T' := s₁) (g' := (mkF m 11 #[.val (.ref b), .val (.int 0), .val (.ref d), .val (.int 0), .val (.int 2), .val (.int 0), .unset] [.ref b])) (fun _ kt_ => XS.aloadN X0.here hx rfl (hb hby own_d10_10) rfl rfl kt_) ?_
 refine own_by (T' := s₁) (g' := (mkF m 12 #[.val (.ref b), .val (.int 0), .val (.ref d), .val (.int 0), .val (.int 2), .val (.int 0), .unset] [.int 0, .ref b])) (fun _ kt_ => XS.iloadN X0.here hx rfl (hb hby own_d10_11) rfl kt_) ?_
 obtain ⟨cl2, Ar2, q2, S2, M2, H2, G2⟩ := id Vb
 have hin2 : ¬ ((0 : Int32) < 0 ∨ cl2.slots.size ≤ ((0 : Int32)).toNatClampNeg) := inb_of S2 ⟨by decide, by decide⟩
 have hat2 : cl2.slots[((0 : Int32)).toNatClampNeg]? = some (.int c0) := H2.at hin2 rfl
 refine own_by (T' := s₁) (g' := (mkF m 13 #[.val (.ref b), .val (.int 0), .val (.ref d), .val (.int 0), .val (.int 2), .val (.int 0), .unset] [.int c0])) (fun _ kt_ => X0.caload hx (j := (0 : Int32)) (v := (.int c0)) (by rw [e0]; exact Ar2.1) (State.isArrayOf_alike hZ.alike Ar2.2.1) Ar2.2.2 hin2 hat2 (g := (mkF m 12 #[.val (.ref b), .val (.int 0), .val (.ref d), .val (.int 0), .val (.int 2), .val (.int 0), .unset] [.int 0, .ref b])) rfl rfl (hb hby own_d10_12) _ kt_) ?_
 refine own_by (T' := s₁) (g' := (mkF m 15 #[.val (.ref b), .val (.int 0), .val (.ref d), .val (.int 0), .val (.int 2), .val (.int 0), .val (.int c0)] [])) (fun _ kt_ => XS.istore X0.here hx rfl (hb hby own_d10_13) rfl (l' := #[.val (.ref b), .val (.int 0), .val (.ref d), .val (.int 0), .val (.int 2), .val (.int 0), .val (.int c0)]) rfl kt_) ?_
 refine own_by (T' := s₁) (g' := (mkF m 17 #[.val (.ref b), .val (.int 0), .val (.ref d), .val (.int 0), .val (.int 2), .val (.int 0), .val (.int c0)] [.int c0])) (fun _ kt_ => XS.iload X0.here hx rfl (hb hby own_d10_15) rfl kt_) ?_
 refine own_by (T' := s₁) (g' := (mkF m 20 #[.val (.ref b), .val (.int 0), .val (.ref d), .val (.int 0), .val (.int 2), .val (.int 0), .val (.int c0)] [.int 255, .int c0])) (fun _ kt_ => XS.sipush X0.here hx rfl (hb hby own_d10_17) kt_) ?_
 refine own_by (T' := s₁) (g' := (mkF m 26 #[.val (.ref b), .val (.int 0), .val (.ref d), .val (.int 0), .val (.int 2), .val (.int 0), .val (.int c0)] [])) (fun _ kt_ => XS.icmpYes X0.here hx rfl (pc0 := 20) (pc' := 26) rfl (hb hby own_d10_20) rfl (XT.ii_le_t hp0) (by decide) (by decide) kt_) ?_
 refine own_by (T' := s₁) (g' := (mkF m 27 #[.val (.ref b), .val (.int 0), .val (.ref d), .val (.int 0), .val (.int 2), .val (.int 0), .val (.int c0)] [.ref d])) (fun _ kt_ => XS.aloadN X0.here hx rfl (hb hby own_d10_26) rfl rfl kt_) ?_
 refine own_by (T' := s₁) (g' := (mkF m 28 #[.val (.ref b), .val (.int 0), .val (.ref d), .val (.int 0), .val (.int 2), .val (.int 0), .val (.int c0)] [.int 0, .ref d])) (fun _ kt_ => XS.iloadN X0.here hx rfl (hb hby own_d10_27) rfl kt_) ?_
 refine own_by (T' := s₁) (g' := (mkF m 30 #[.val (.ref b), .val (.int 0), .val (.ref d), .val (.int 0), .val (.int 2), .val (.int 0), .val (.int c0)] [.int c0, .int 0, .ref d])) (fun _ kt_ => XS.iload X0.here hx rfl (hb hby own_d10_28) rfl kt_) ?_
 refine own_by (T' := s₁) (g' := (mkF m 31 #[.val (.ref b), .val (.int 0), .val (.ref d), .val (.int 0), .val (.int 2), .val (.int 0), .val (.int c0)] [(.int c0.toInt8.toInt32), .int 0, .ref d])) (fun _ kt_ => XS.i2b X0.here hx rfl (hb hby own_d10_30) rfl kt_) ?_
 obtain ⟨cl3, Ar3, q3, S3, M3, H3, G3⟩ := id Vd
 have hin3 : ¬ ((0 : Int32) < 0 ∨ cl3.slots.size ≤ ((0 : Int32)).toNatClampNeg) := inb_of S3 ⟨by decide, by decide⟩
 obtain ⟨T3, h3, X3, e3, W3, st3⟩ := stB X0 hx hZ e0 Ar3 (j := (0 : Int32)) hin3 (g := (mkF m 31 #[.val (.ref b), .val (.int 0), .val (.ref d), .val (.int 0), .val (.int 2), .val (.int 0), .val (.int c0)] [(.int c0.toInt8.toInt32), .int 0, .ref d])) rfl rfl (hb hby own_d10_31)
 rw [show nar .byte c0.toInt8.toInt32 = c0.toInt8.toInt32 from own_narB _] at W3
 have K4 : Keep h0 h3 [d] := Keep.of_wr W3
 have zzK4 : h0.size ≤ h3.size := K4.1
 have oo5 : Old Z n0 h3 := O0.keep K4 (allS (by omega : n0 ≤ d) all0)
 have kt6 : Keep h0 h3 [d] := KT0.trans K4 (allS (Or.inl (List.mem_of_getElem? (i := 0) rfl)) all0)
 have f7 : Arv Z h3 d kB .byte (2 : Int32) [(.int c0.toInt8.toInt32), .int 0] (.int 0) := Arv.set Ar3 q3 S3 M3 H3 G3 (fits_nar_byte _) W3 0 rfl (Nat.le_of_ble_eq_true rfl)
 have N8 := Fr.snoc X3 N0 (by omega : n0 ≤ d)
 refine own_by (T' := T3) (g' := (mkF m 32 #[.val (.ref b), .val (.int 0), .val (.ref d), .val (.int 0), .val (.int 2), .val (.int 0), .val (.int c0)] [])) st3 ?_
 refine own_by (T' := T3) (g' := (mkF m 35 #[.val (.ref b), .val (.int ((0 : Int32) + (1 : Int32))), .val (.ref d), .val (.int 0), .val (.int 2), .val (.int 0), .val (.int c0)] [])) (fun _ kt_ => XS.iinc X3.here hx rfl (hb hby own_d10_32) rfl (l' := #[.val (.ref b), .val (.int ((0 : Int32) + (1 : Int32))), .val (.ref d), .val (.int 0), .val (.int 2), .val (.int 0), .val (.int c0)]) rfl kt_) ?_
 rw [show ((0 : Int32) + (1 : Int32)) = (1 : Int32) from by decide]
 refine own_by (T' := T3) (g' := (mkF m 38 #[.val (.ref b), .val (.int 1), .val (.ref d), .val (.int ((0 : Int32) + (1 : Int32))), .val (.int 2), .val (.int 0), .val (.int c0)] [])) (fun _ kt_ => XS.iinc X3.here hx rfl (hb hby own_d10_35) rfl (l' := #[.val (.ref b), .val (.int 1), .val (.ref d), .val (.int ((0 : Int32) + (1 : Int32))), .val (.int 2), .val (.int 0), .val (.int c0)]) rfl kt_) ?_
 rw [show ((0 : Int32) + (1 : Int32)) = (1 : Int32) from by decide]
 refine own_by (T' := T3) (g' := (mkF m 41 #[.val (.ref b), .val (.int 1), .val (.ref d), .val (.int 1), .val (.int 2), .val (.int ((0 : Int32) + (1 : Int32))), .val (.int c0)] [])) (fun _ kt_ => XS.iinc X3.here hx rfl (hb hby own_d10_38) rfl (l' := #[.val (.ref b), .val (.int 1), .val (.ref d), .val (.int 1), .val (.int 2), .val (.int ((0 : Int32) + (1 : Int32))), .val (.int c0)]) rfl kt_) ?_
 rw [show ((0 : Int32) + (1 : Int32)) = (1 : Int32) from by decide]
 refine own_by (T' := T3) (g' := (mkF m 3 #[.val (.ref b), .val (.int 1), .val (.ref d), .val (.int 1), .val (.int 2), .val (.int 1), .val (.int c0)] [])) (fun _ kt_ => XS.goto X3.here hx rfl (pc0 := 41) (pc' := 3) rfl (hb hby own_d10_41) (by decide) (by decide) kt_) ?_
 refine own_by (T' := T3) (g' := (mkF m 5 #[.val (.ref b), .val (.int 1), .val (.ref d), .val (.int 1), .val (.int 2), .val (.int 1), .val (.int c0)] [.int 1])) (fun _ kt_ => XS.iload X3.here hx rfl (hb hby own_d10_3) rfl kt_) ?_
 refine own_by (T' := T3) (g' := (mkF m 7 #[.val (.ref b), .val (.int 1), .val (.ref d), .val (.int 1), .val (.int 2), .val (.int 1), .val (.int c0)] [.int 2, .int 1])) (fun _ kt_ => XS.iload X3.here hx rfl (hb hby own_d10_5) rfl kt_) ?_
 refine own_by (T' := T3) (g' := (mkF m 10 #[.val (.ref b), .val (.int 1), .val (.ref d), .val (.int 1), .val (.int 2), .val (.int 1), .val (.int c0)] [])) (fun _ kt_ => XS.icmpNo X3.here hx rfl (hb hby own_d10_7) rfl (XT.ii_ge_f (by decide)) kt_) ?_
 refine own_by (T' := T3) (g' := (mkF m 11 #[.val (.ref b), .val (.int 1), .val (.ref d), .val (.int 1), .val (.int 2), .val (.int 1), .val (.int c0)] [.ref b])) (fun _ kt_ => XS.aloadN X3.here hx rfl (hb hby own_d10_10) rfl rfl kt_) ?_
 refine own_by (T' := T3) (g' := (mkF m 12 #[.val (.ref b), .val (.int 1), .val (.ref d), .val (.int 1), .val (.int 2), .val (.int 1), .val (.int c0)] [.int 1, .ref b])) (fun _ kt_ => XS.iloadN X3.here hx rfl (hb hby own_d10_11) rfl kt_) ?_
 have f10 : Arv Z h3 b kC .char (2 : Int32) [.int c0, .int c1] (.int 0) := (Vb.keep K4 (ninS ne1 nin0))
 obtain ⟨cl9, Ar9, q9, S9, M9, H9, G9⟩ := id f10
 have hin9 : ¬ ((1 : Int32) < 0 ∨ cl9.slots.size ≤ ((1 : Int32)).toNatClampNeg) := inb_of S9 ⟨by decide, by decide⟩
 have hat9 : cl9.slots[((1 : Int32)).toNatClampNeg]? = some (.int c1) := H9.at hin9 rfl
 refine own_by (T' := T3) (g' := (mkF m 13 #[.val (.ref b), .val (.int 1), .val (.ref d), .val (.int 1), .val (.int 2), .val (.int 1), .val (.int c0)] [.int c1])) (fun _ kt_ => X3.caload hx (j := (1 : Int32)) (v := (.int c1)) (by rw [e3]; exact Ar9.1) (State.isArrayOf_alike hZ.alike Ar9.2.1) Ar9.2.2 hin9 hat9 (g := (mkF m 12 #[.val (.ref b), .val (.int 1), .val (.ref d), .val (.int 1), .val (.int 2), .val (.int 1), .val (.int c0)] [.int 1, .ref b])) rfl rfl (hb hby own_d10_12) _ kt_) ?_
 refine own_by (T' := T3) (g' := (mkF m 15 #[.val (.ref b), .val (.int 1), .val (.ref d), .val (.int 1), .val (.int 2), .val (.int 1), .val (.int c1)] [])) (fun _ kt_ => XS.istore X3.here hx rfl (hb hby own_d10_13) rfl (l' := #[.val (.ref b), .val (.int 1), .val (.ref d), .val (.int 1), .val (.int 2), .val (.int 1), .val (.int c1)]) rfl kt_) ?_
 refine own_by (T' := T3) (g' := (mkF m 17 #[.val (.ref b), .val (.int 1), .val (.ref d), .val (.int 1), .val (.int 2), .val (.int 1), .val (.int c1)] [.int c1])) (fun _ kt_ => XS.iload X3.here hx rfl (hb hby own_d10_15) rfl kt_) ?_
 refine own_by (T' := T3) (g' := (mkF m 20 #[.val (.ref b), .val (.int 1), .val (.ref d), .val (.int 1), .val (.int 2), .val (.int 1), .val (.int c1)] [.int 255, .int c1])) (fun _ kt_ => XS.sipush X3.here hx rfl (hb hby own_d10_17) kt_) ?_
 refine own_by (T' := T3) (g' := (mkF m 26 #[.val (.ref b), .val (.int 1), .val (.ref d), .val (.int 1), .val (.int 2), .val (.int 1), .val (.int c1)] [])) (fun _ kt_ => XS.icmpYes X3.here hx rfl (pc0 := 20) (pc' := 26) rfl (hb hby own_d10_20) rfl (XT.ii_le_t hp1) (by decide) (by decide) kt_) ?_
 refine own_by (T' := T3) (g' := (mkF m 27 #[.val (.ref b), .val (.int 1), .val (.ref d), .val (.int 1), .val (.int 2), .val (.int 1), .val (.int c1)] [.ref d])) (fun _ kt_ => XS.aloadN X3.here hx rfl (hb hby own_d10_26) rfl rfl kt_) ?_
 refine own_by (T' := T3) (g' := (mkF m 28 #[.val (.ref b), .val (.int 1), .val (.ref d), .val (.int 1), .val (.int 2), .val (.int 1), .val (.int c1)] [.int 1, .ref d])) (fun _ kt_ => XS.iloadN X3.here hx rfl (hb hby own_d10_27) rfl kt_) ?_
 refine own_by (T' := T3) (g' := (mkF m 30 #[.val (.ref b), .val (.int 1), .val (.ref d), .val (.int 1), .val (.int 2), .val (.int 1), .val (.int c1)] [.int c1, .int 1, .ref d])) (fun _ kt_ => XS.iload X3.here hx rfl (hb hby own_d10_28) rfl kt_) ?_
 refine own_by (T' := T3) (g' := (mkF m 31 #[.val (.ref b), .val (.int 1), .val (.ref d), .val (.int 1), .val (.int 2), .val (.int 1), .val (.int c1)] [(.int c1.toInt8.toInt32), .int 1, .ref d])) (fun _ kt_ => XS.i2b X3.here hx rfl (hb hby own_d10_30) rfl kt_) ?_
 obtain ⟨cl11, Ar11, q11, S11, M11, H11, G11⟩ := id f7
 have hin11 : ¬ ((1 : Int32) < 0 ∨ cl11.slots.size ≤ ((1 : Int32)).toNatClampNeg) := inb_of S11 ⟨by decide, by decide⟩
 obtain ⟨T11, h11, X11, e11, W11, st11⟩ := stB X3 hx hZ e3 Ar11 (j := (1 : Int32)) hin11 (g := (mkF m 31 #[.val (.ref b), .val (.int 1), .val (.ref d), .val (.int 1), .val (.int 2), .val (.int 1), .val (.int c1)] [(.int c1.toInt8.toInt32), .int 1, .ref d])) rfl rfl (hb hby own_d10_31)
 rw [show nar .byte c1.toInt8.toInt32 = c1.toInt8.toInt32 from own_narB _] at W11
 have K12 : Keep h3 h11 [d] := Keep.of_wr W11
 have zzK12 : h3.size ≤ h11.size := K12.1
 have oo13 : Old Z n0 h11 := oo5.keep K12 (allS (by omega : n0 ≤ d) all0)
 have kt14 : Keep h0 h11 [d] := kt6.trans K12 (allS (Or.inl (List.mem_of_getElem? (i := 0) rfl)) all0)
 have f15 : Arv Z h11 d kB .byte (2 : Int32) [(.int c0.toInt8.toInt32), (.int c1.toInt8.toInt32)] (.int 0) := Arv.set Ar11 q11 S11 M11 H11 G11 (fits_nar_byte _) W11 1 rfl (Nat.le_of_ble_eq_true rfl)
 have N16 := Fr.snoc X11 N8 (by omega : n0 ≤ d)
 refine own_by (T' := T11) (g' := (mkF m 32 #[.val (.ref b), .val (.int 1), .val (.ref d), .val (.int 1), .val (.int 2), .val (.int 1), .val (.int c1)] [])) st11 ?_
 refine own_by (T' := T11) (g' := (mkF m 35 #[.val (.ref b), .val (.int ((1 : Int32) + (1 : Int32))), .val (.ref d), .val (.int 1), .val (.int 2), .val (.int 1), .val (.int c1)] [])) (fun _ kt_ => XS.iinc X11.here hx rfl (hb hby own_d10_32) rfl (l' := #[.val (.ref b), .val (.int ((1 : Int32) + (1 : Int32))), .val (.ref d), .val (.int 1), .val (.int 2), .val (.int 1), .val (.int c1)]) rfl kt_) ?_
 rw [show ((1 : Int32) + (1 : Int32)) = (2 : Int32) from by decide]
 refine own_by (T' := T11) (g' := (mkF m 38 #[.val (.ref b), .val (.int 2), .val (.ref d), .val (.int ((1 : Int32) + (1 : Int32))), .val (.int 2), .val (.int 1), .val (.int c1)] [])) (fun _ kt_ => XS.iinc X11.here hx rfl (hb hby own_d10_35) rfl (l' := #[.val (.ref b), .val (.int 2), .val (.ref d), .val (.int ((1 : Int32) + (1 : Int32))), .val (.int 2), .val (.int 1), .val (.int c1)]) rfl kt_) ?_
 rw [show ((1 : Int32) + (1 : Int32)) = (2 : Int32) from by decide]
 refine own_by (T' := T11) (g' := (mkF m 41 #[.val (.ref b), .val (.int 2), .val (.ref d), .val (.int 2), .val (.int 2), .val (.int ((1 : Int32) + (1 : Int32))), .val (.int c1)] [])) (fun _ kt_ => XS.iinc X11.here hx rfl (hb hby own_d10_38) rfl (l' := #[.val (.ref b), .val (.int 2), .val (.ref d), .val (.int 2), .val (.int 2), .val (.int ((1 : Int32) + (1 : Int32))), .val (.int c1)]) rfl kt_) ?_
 rw [show ((1 : Int32) + (1 : Int32)) = (2 : Int32) from by decide]
 refine own_by (T' := T11) (g' := (mkF m 3 #[.val (.ref b), .val (.int 2), .val (.ref d), .val (.int 2), .val (.int 2), .val (.int 2), .val (.int c1)] [])) (fun _ kt_ => XS.goto X11.here hx rfl (pc0 := 41) (pc' := 3) rfl (hb hby own_d10_41) (by decide) (by decide) kt_) ?_
 refine own_by (T' := T11) (g' := (mkF m 5 #[.val (.ref b), .val (.int 2), .val (.ref d), .val (.int 2), .val (.int 2), .val (.int 2), .val (.int c1)] [.int 2])) (fun _ kt_ => XS.iload X11.here hx rfl (hb hby own_d10_3) rfl kt_) ?_
 refine own_by (T' := T11) (g' := (mkF m 7 #[.val (.ref b), .val (.int 2), .val (.ref d), .val (.int 2), .val (.int 2), .val (.int 2), .val (.int c1)] [.int 2, .int 2])) (fun _ kt_ => XS.iload X11.here hx rfl (hb hby own_d10_5) rfl kt_) ?_
 refine own_by (T' := T11) (g' := (mkF m 44 #[.val (.ref b), .val (.int 2), .val (.ref d), .val (.int 2), .val (.int 2), .val (.int 2), .val (.int c1)] [])) (fun _ kt_ => XS.icmpYes X11.here hx rfl (pc0 := 7) (pc' := 44) rfl (hb hby own_d10_7) rfl (XT.ii_ge_t (by decide)) (by decide) (by decide) kt_) ?_
 refine own_by (T' := T11) (g' := (mkF m 46 #[.val (.ref b), .val (.int 2), .val (.ref d), .val (.int 2), .val (.int 2), .val (.int 2), .val (.int c1)] [.int 2])) (fun _ kt_ => XS.iload X11.here hx rfl (hb hby own_d10_44) rfl kt_) ?_
 obtain ⟨fs17, hr17, hrun17, hended17, hW17, hsame17⟩ := X11.leave (v := some (.int 2)) (fun h => by rw [Bd.returns] at h; cases h)
 refine ⟨_, _, retOut X11 hx (t := .int) Bd.returns rfl (Or.inl ⟨rfl, Or.inl rfl, _, rfl⟩) (hb hby own_d10_46) hr17, hrun17, hended17, _, _, rfl, ?_, ⟨_, rfl⟩, hW17, hsame17.mono (by decide) (by decide)⟩
 show Q_rmC5_2 Z zC vF hvF b d kC kB c0 c1 h0 n0 _ T11.heap _
 rw [e11]
 exact ⟨rfl, N16, kt14, f15⟩
theorem own_ef_rmC3_2 (m : MethodId) (x0 : Addr) (x1 : Int32) (x2 : Int32) : entryFrame m #[.ref x0, .int x1, .int x2] 6 = mkF m 0 #[.val (.ref x0), .val (.int x1), .val (.int x2), .unset, .unset, .unset] [] := by first | (simp [entryFrame, mkF, argsToLocals, Value.category]; done) | rfl
def Q_rmC3_2 (Z : State) (zC : Int32) (vF : Value) (hvF : vF.isRef = true) (b : Addr) (kC : ClassId) (c0 : Int32) (c1 : Int32) (h0 : Heap) (n0 : Nat) (vv_ : Option Value) (hh_ : Heap) (LL_ : List Loc) : Prop := ∃ d : Addr, ∃ kB : ClassId, vv_ = some (.ref d) ∧ Fr n0 LL_ ∧ Keep h0 hh_ [] ∧ h0.size ≤ d ∧ Arv Z hh_ d kB .byte (2 : Int32) [(.int c0.toInt8.toInt32), (.int c1.toInt8.toInt32)] (.int 0)
set_option maxRecDepth 65536 in
set_option maxHeartbeats 40000000 in
theorem rmC3_2 (l : Launch) (Z : State) (a0 : Array Value) (hw : ∀ d ∈ tables_1, d.before a0 Z = true) (ws : List Jvm.Cond) (zC : Int32) (vF : Value) (hvF : vF.isRef = true) (GS : Glob Z zC vF hvF) (b : Addr) (kC : ClassId) (c0 : Int32) (c1 : Int32) (h0 : Heap) (n0 : Nat) (Z0 : n0 ≤ h0.size) (O0 : Old Z n0 h0) (Vb : Arv Z h0 b kC .char (2 : Int32) [.int c0, .int c1] (.int 0)) (hp0 : ¬ (255 : Int32) < c0) (hp1 : ¬ (255 : Int32) < c1) :
  MetFree l (⟨"java/lang/StringUTF16", "compress", "([CII)[B"⟩ : MethodName) (head1 (Jvm.Cond.code (⟨"java/lang/StringUTF16", "compress", "([CII)[B"⟩ : MethodName) jdk_52_method_16_code 6 (some (.array .byte)) :: ws) (⟨1, 1, 2, 18⟩ : Room)) (fun aa_ UU_ => aa_ = #[.ref b, .int 0, .int 2] ∧ Z.Warmed39 UU_.vm ∧ UU_.heap = h0) (fun _ _ _ _ _ => True) (fun _ UU_ oo_ UV_ => ∃ vv_ LL_, oo_ = .returned vv_ ∧ Q_rmC3_2 Z zC vF hvF b kC c0 c1 h0 n0 vv_ UV_.heap LL_ ∧ FrameEnd UU_ oo_ UV_ LL_ (⟨1, 1, 2, 18⟩ : Room).cells (⟨1, 1, 2, 18⟩ : Room).slots) := by
 refine MetFree.of_bodySF (plainFor_of_name own_pn_java_lang_StringUTF16) hisR ?_
 intro p e s m args below meth c s₁ Bd hml0 hP hK
 obtain ⟨rfl, hZ, hh⟩ := hP
 have hx := Bd.exec
 have hby := Bd.bytes
 have hml : c.maxLocals = 6 := hml0
 have hown : s.vm.findClass "java/lang/StringUTF16" = some m.cls := findClass_of_methodNamed Bd.named
 have hnm := (name_of_methodNamed Bd.named Bd.method).1
 have X0 : Stand p l e (⟨1, 1, 2, 18⟩ : Room) s m #[.ref b, .int 0, .int 2] below meth c s₁ [] 0 0 := Stand.of_body Bd
 have e0 : s₁.heap = h0 := by rw [← hh, Bd.state]; rfl
 have N0 := Fr.nil n0
 have hn0 : Z.heap.size = n0 := O0.1
 have KT0 : Keep h0 h0 [] := Keep.refl _ _
 refine own_enter (Φ := fun oo_ UV_ => ∃ vv_ LL_, oo_ = .returned vv_ ∧ Q_rmC3_2 Z zC vF hvF b kC c0 c1 h0 n0 vv_ UV_.heap LL_ ∧ FrameEnd s oo_ UV_ LL_ (⟨1, 1, 2, 18⟩ : Room).cells (⟨1, 1, 2, 18⟩ : Room).slots) (own_ef_rmC3_2 m b (0 : Int32) (2 : Int32)) ?_
 refine own_by (T' := s₁) (g' := (mkF m 1 #[.val (.ref b), .val (.int 0), .val (.int 2), .unset, .unset, .unset] [.int 2])) (fun _ kt_ => XS.iloadN X0.here hx rfl (hb hby own_d9_0) rfl kt_) ?_
 obtain ⟨T1, h1, k1, X1, e1, E1, A1, st1⟩ := newP X0 hx hZ (ww hw 22 rfl) e0 (g := (mkF m 1 #[.val (.ref b), .val (.int 0), .val (.int 2), .unset, .unset, .unset] [.int 2])) rfl (hb hby own_d9_1) rfl (by decide) (cap := 2) (by decide) (by decide) (by decide) (by decide)
 obtain ⟨b1, g1⟩ : ∃ z, z = h0.size := ⟨_, rfl⟩
 rw [← g1] at A1 st1
 have K2 : Keep h0 h1 [] := own_kext E1
 have zzK2 : h0.size ≤ h1.size := K2.1
 have oo3 : Old Z n0 h1 := O0.keep K2 all0
 have kt4 : Keep h0 h1 [] := KT0.trans K2 all0
 have lab1 : b1 < h1.size := A1.lt
 have f5 : Arv Z h1 b1 k1 .byte (2 : Int32) [.int 0, .int 0] (.int 0) := (Arv.new A1 (by decide)).pad (pad_rep [] (.int 0) 2)
 refine own_by (T' := T1) (g' := (mkF m 3 #[.val (.ref b), .val (.int 0), .val (.int 2), .unset, .unset, .unset] [.ref b1])) st1 ?_
 refine own_by (T' := T1) (g' := (mkF m 4 #[.val (.ref b), .val (.int 0), .val (.int 2), .val (.ref b1), .unset, .unset] [])) (fun _ kt_ => XS.astoreN X1.here hx rfl (hb hby own_d9_3) rfl rfl (l' := #[.val (.ref b), .val (.int 0), .val (.int 2), .val (.ref b1), .unset, .unset]) rfl kt_) ?_
 refine own_by (T' := T1) (g' := (mkF m 5 #[.val (.ref b), .val (.int 0), .val (.int 2), .val (.ref b1), .unset, .unset] [.ref b])) (fun _ kt_ => XS.aloadN X1.here hx rfl (hb hby own_d9_4) rfl rfl kt_) ?_
 refine own_by (T' := T1) (g' := (mkF m 6 #[.val (.ref b), .val (.int 0), .val (.int 2), .val (.ref b1), .unset, .unset] [.int 0, .ref b])) (fun _ kt_ => XS.iloadN X1.here hx rfl (hb hby own_d9_5) rfl kt_) ?_
 refine own_by (T' := T1) (g' := (mkF m 7 #[.val (.ref b), .val (.int 0), .val (.int 2), .val (.ref b1), .unset, .unset] [.ref b1, .int 0, .ref b])) (fun _ kt_ => XS.aloadN X1.here hx rfl (hb hby own_d9_6) rfl rfl kt_) ?_
 refine own_by (T' := T1) (g' := (mkF m 8 #[.val (.ref b), .val (.int 0), .val (.int 2), .val (.ref b1), .unset, .unset] [.int 0, .ref b1, .int 0, .ref b])) (fun _ kt_ => XS.iconst X1.here hx rfl (hb hby own_d9_7) kt_) ?_
 refine own_by (T' := T1) (g' := (mkF m 9 #[.val (.ref b), .val (.int 0), .val (.int 2), .val (.ref b1), .unset, .unset] [.int 2, .int 0, .ref b1, .int 0, .ref b])) (fun _ kt_ => XS.iloadN X1.here hx rfl (hb hby own_d9_8) rfl kt_) ?_
 have f6 : Arv Z h1 b kC .char (2 : Int32) [.int c0, .int c1] (.int 0) := (Vb.keep K2 nin0)
 have la7 : @LT.lt Nat instLTNat b h0.size := Vb.lt
 have ne8 : @Ne Nat b b1 := by omega
 obtain ⟨_, _, ⟨T9, L9, k9, n9⟩, -, X9, ⟨Lc9, hQ9, l9, y9, z9⟩, st9⟩ := Jvm.LawKit.callS X1 hx (y := (⟨"java/lang/StringUTF16", "compress", "([CI[BII)I"⟩ : MethodName)) hown (mvT hZ (ww hw 48 rfl)) (mvT hZ (ww hw 49 rfl)) (mvT hZ (ww hw 46 rfl)) (mvT hZ (ww hw 50 rfl)) (by decide) (backOf (W := 0) (rmC5_2 l Z a0 hw [] zC vF hvF GS b b1 kC k1 c0 c1 h1 n0 (by omega) oo3 f6 f5 (by omega) ne8 hp0 hp1) hZ (ww hw 50 rfl) (ww hw 46 rfl) (by decide) (by decide)) (g := (mkF m 9 #[.val (.ref b), .val (.int 0), .val (.int 2), .val (.ref b1), .unset, .unset] [.int 2, .int 0, .ref b1, .int 0, .ref b])) rfl (by rw [hml]; rfl) (argsL := [.ref b, .int 0, .ref b1, .int 0, .int 2]) (rest := []) (lenOf own_pd_0 rfl) rfl (by show 2 * 0 + _ ≤ _; exact Nat.le_of_eq rfl) (hb hby own_d9_9) (fun _ _ => ⟨rfl, e1, (by decide : 1 + 0 ≤ _), (by decide : 2 + 0 ≤ _)⟩)
 dsimp only [Pt.U, Pt.locs, Pt.cells, Pt.slots] at X9 l9 y9 z9 st9 hQ9
 subst l9 y9 z9
 obtain ⟨rfl, N9q, K9, p9_0⟩ := hQ9
 have N10 := Fr.app N0 N9q
 have zzK9 : h1.size ≤ T9.heap.size := K9.1
 have oo11 : Old Z n0 T9.heap := oo3.keep K9 (allS (by omega : n0 ≤ b1) all0)
 have kt12 : Keep h0 T9.heap [] := kt4.trans K9 (allS (Or.inr (by omega : h0.size ≤ b1)) all0)
 refine own_by (T' := T9) (g' := (mkF m 12 #[.val (.ref b), .val (.int 0), .val (.int 2), .val (.ref b1), .unset, .unset] [.int 2])) st9 ?_
 refine own_by (T' := T9) (g' := (mkF m 14 #[.val (.ref b), .val (.int 0), .val (.int 2), .val (.ref b1), .val (.int 2), .unset] [])) (fun _ kt_ => XS.istore X9.here hx rfl (hb hby own_d9_12) rfl (l' := #[.val (.ref b), .val (.int 0), .val (.int 2), .val (.ref b1), .val (.int 2), .unset]) rfl kt_) ?_
 refine own_by (T' := T9) (g' := (mkF m 16 #[.val (.ref b), .val (.int 0), .val (.int 2), .val (.ref b1), .val (.int 2), .unset] [.int 2])) (fun _ kt_ => XS.iload X9.here hx rfl (hb hby own_d9_14) rfl kt_) ?_
 refine own_by (T' := T9) (g' := (mkF m 17 #[.val (.ref b), .val (.int 0), .val (.int 2), .val (.ref b1), .val (.int 2), .unset] [.int 2, .int 2])) (fun _ kt_ => XS.iloadN X9.here hx rfl (hb hby own_d9_16) rfl kt_) ?_
 refine own_by (T' := T9) (g' := (mkF m 57 #[.val (.ref b), .val (.int 0), .val (.int 2), .val (.ref b1), .val (.int 2), .unset] [])) (fun _ kt_ => XS.icmpYes X9.here hx rfl (pc0 := 17) (pc' := 57) rfl (hb hby own_d9_17) rfl (XT.ii_eq_t (by decide)) (by decide) (by decide) kt_) ?_
 refine own_by (T' := T9) (g' := (mkF m 58 #[.val (.ref b), .val (.int 0), .val (.int 2), .val (.ref b1), .val (.int 2), .unset] [.ref b1])) (fun _ kt_ => XS.aloadN X9.here hx rfl (hb hby own_d9_57) rfl rfl kt_) ?_
 obtain ⟨fs13, hr13, hrun13, hended13, hW13, hsame13⟩ := X9.leave (v := some (.ref b1)) (fun h => by rw [Bd.returns] at h; cases h)
 refine ⟨_, _, retOut X9 hx (t := (.array .byte)) Bd.returns rfl (Or.inr (Or.inr (Or.inr (Or.inr ⟨rfl, rfl, rfl⟩)))) (hb hby own_d9_58) hr13, hrun13, hended13, _, _, rfl, ?_, ⟨_, rfl⟩, hW13, hsame13.mono (by decide) (by decide)⟩
 show Q_rmC3_2 Z zC vF hvF b kC c0 c1 h0 n0 _ T9.heap _
 exact ⟨b1, k1, rfl, N10, kt12, (by omega), p9_0⟩
theorem own_ef_rmCod_2 (m : MethodId) (x0 : Addr) (x1 : Int32) : entryFrame m #[.ref x0, .int x1] 2 = mkF m 0 #[.val (.ref x0), .val (.int x1)] [] := by first | (simp [entryFrame, mkF, argsToLocals, Value.category]; done) | rfl
def Q_rmCod_2 (Z : State) (zC : Int32) (vF : Value) (hvF : vF.isRef = true) (d : Addr) (kB : ClassId) (b0 : Int32) (b1 : Int32) (h0 : Heap) (n0 : Nat) (vv_ : Option Value) (hh_ : Heap) (LL_ : List Loc) : Prop := vv_ = some (.int 0) ∧ Fr n0 LL_ ∧ hh_ = h0
set_option maxRecDepth 65536 in
set_option maxHeartbeats 40000000 in
theorem rmCod_2 (l : Launch) (Z : State) (a0 : Array Value) (hw : ∀ d ∈ tables_1, d.before a0 Z = true) (ws : List Jvm.Cond) (zC : Int32) (vF : Value) (hvF : vF.isRef = true) (GS : Glob Z zC vF hvF) (d : Addr) (kB : ClassId) (b0 : Int32) (b1 : Int32) (h0 : Heap) (n0 : Nat) (Z0 : n0 ≤ h0.size) (O0 : Old Z n0 h0) (Vd : Arv Z h0 d kB .byte (2 : Int32) [.int b0, .int b1] (.int 0)) :
  MetFree l (⟨"java/lang/StringUTF16", "coderFromArrayLen", "([BI)B"⟩ : MethodName) (head1 (Jvm.Cond.code (⟨"java/lang/StringUTF16", "coderFromArrayLen", "([BI)B"⟩ : MethodName) jdk_52_method_15_code 2 (some .byte) :: ws) (⟨0, 0, 0, 0⟩ : Room)) (fun aa_ UU_ => aa_ = #[.ref d, .int 2] ∧ Z.Warmed39 UU_.vm ∧ UU_.heap = h0) (fun _ _ _ _ _ => True) (fun _ UU_ oo_ UV_ => ∃ vv_ LL_, oo_ = .returned vv_ ∧ Q_rmCod_2 Z zC vF hvF d kB b0 b1 h0 n0 vv_ UV_.heap LL_ ∧ FrameEnd UU_ oo_ UV_ LL_ (⟨0, 0, 0, 0⟩ : Room).cells (⟨0, 0, 0, 0⟩ : Room).slots) := by
 refine MetFree.of_bodySF (plainFor_of_name own_pn_java_lang_StringUTF16) hisR ?_
 intro p e s m args below meth c s₁ Bd hml0 hP hK
 obtain ⟨rfl, hZ, hh⟩ := hP
 have hx := Bd.exec
 have hby := Bd.bytes
 have hml : c.maxLocals = 2 := hml0
 have hown : s.vm.findClass "java/lang/StringUTF16" = some m.cls := findClass_of_methodNamed Bd.named
 have hnm := (name_of_methodNamed Bd.named Bd.method).1
 have X0 : Stand p l e (⟨0, 0, 0, 0⟩ : Room) s m #[.ref d, .int 2] below meth c s₁ [] 0 0 := Stand.of_body Bd
 have e0 : s₁.heap = h0 := by rw [← hh, Bd.state]; rfl
 have N0 := Fr.nil n0
 have hn0 : Z.heap.size = n0 := O0.1
 have KT0 : Keep h0 h0 [] := Keep.refl _ _
 refine own_enter (Φ := fun oo_ UV_ => ∃ vv_ LL_, oo_ = .returned vv_ ∧ Q_rmCod_2 Z zC vF hvF d kB b0 b1 h0 n0 vv_ UV_.heap LL_ ∧ FrameEnd s oo_ UV_ LL_ (⟨0, 0, 0, 0⟩ : Room).cells (⟨0, 0, 0, 0⟩ : Room).slots) (own_ef_rmCod_2 m d (2 : Int32)) ?_
 refine own_by (T' := s₁) (g' := (mkF m 1 #[.val (.ref d), .val (.int 2)] [.int 2])) (fun _ kt_ => XS.iloadN X0.here hx rfl (hb hby own_d11_0) rfl kt_) ?_
 refine own_by (T' := s₁) (g' := (mkF m 2 #[.val (.ref d), .val (.int 2)] [.ref d, .int 2])) (fun _ kt_ => XS.aloadN X0.here hx rfl (hb hby own_d11_1) rfl rfl kt_) ?_
 obtain ⟨cl1, Ar1, q1, S1, M1, H1, G1⟩ := id Vd
 refine own_by (T' := s₁) (g' := (mkF m 3 #[.val (.ref d), .val (.int 2)] [.int 2, .int 2])) (fun _ kt_ => X0.arraylength hx (by rw [e0]; exact Ar1.1) (State.isArrayOf_alike hZ.alike Ar1.2.1) (g := (mkF m 2 #[.val (.ref d), .val (.int 2)] [.ref d, .int 2])) rfl rfl (hb hby own_d11_2) _ (by rw [len_of S1 M1]; exact kt_)) ?_
 refine own_by (T' := s₁) (g' := (mkF m 4 #[.val (.ref d), .val (.int 2)] [(.int ((2 : Int32) - (2 : Int32)))])) (fun _ kt_ => XS.isub X0.here hx rfl (hb hby own_d11_3) rfl kt_) ?_
 rw [show ((2 : Int32) - (2 : Int32)) = (0 : Int32) from by decide]
 refine own_by (T' := s₁) (g' := (mkF m 6 #[.val (.ref d), .val (.int 2)] [.int 31, .int 0])) (fun _ kt_ => XS.bipush X0.here hx rfl (hb hby own_d11_4) kt_) ?_
 refine own_by (T' := s₁) (g' := (mkF m 7 #[.val (.ref d), .val (.int 2)] [(.int (((0 : Int32).toUInt32 >>> ((31 : Int32) &&& 31).toUInt32).toInt32))])) (fun _ kt_ => XS.iushr X0.here hx rfl (hb hby own_d11_6) rfl kt_) ?_
 refine own_by (T' := s₁) (g' := (mkF m 8 #[.val (.ref d), .val (.int 2)] [(.int (((0 : Int32).toUInt32 >>> ((31 : Int32) &&& 31).toUInt32).toInt32).toInt8.toInt32)])) (fun _ kt_ => XS.i2b X0.here hx rfl (hb hby own_d11_7) rfl kt_) ?_
 have hn2 : nar .byte ((((0 : Int32).toUInt32 >>> ((31 : Int32) &&& 31).toUInt32).toInt32).toInt8.toInt32) = (((0 : Int32).toUInt32 >>> ((31 : Int32) &&& 31).toUInt32).toInt32).toInt8.toInt32 := by decide
 have hr3 : (((0 : Int32).toUInt32 >>> ((31 : Int32) &&& 31).toUInt32).toInt32).toInt8.toInt32 = (0 : Int32) := by decide
 obtain ⟨fs4, hr4, hrun4, hended4, hW4, hsame4⟩ := X0.leave (v := some (.int (nar .byte ((((0 : Int32).toUInt32 >>> ((31 : Int32) &&& 31).toUInt32).toInt32).toInt8.toInt32)))) (fun h => by rw [Bd.returns] at h; cases h)
 refine ⟨_, _, retN X0 hx (t := .byte) Bd.returns (by simp) (hb hby own_d11_8) hr4, hrun4, hended4, _, _, rfl, ?_, ⟨_, rfl⟩, hW4, hsame4.mono (by decide) (by decide)⟩
 show Q_rmCod_2 Z zC vF hvF d kB b0 b1 h0 n0 _ s₁.heap _
 exact ⟨(congrArg (fun z => some (Value.int z)) (hn2.trans hr3)), N0, e0⟩
theorem own_ef_rmS4_2 (m : MethodId) (x0 : Addr) (x1 : Addr) (x2 : Int32) (x3 : Int32) : entryFrame m #[.ref x0, .ref x1, .int x2, .int x3, .null] 6 = mkF m 0 #[.val (.ref x0), .val (.ref x1), .val (.int x2), .val (.int x3), .val .null, .unset] [] := by first | (simp [entryFrame, mkF, argsToLocals, Value.category]; done) | rfl
def Q_rmS4_2 (Z : State) (zC : Int32) (vF : Value) (hvF : vF.isRef = true) (x : Addr) (b : Addr) (kC : ClassId) (c0 : Int32) (c1 : Int32) (h0 : Heap) (n0 : Nat) (vv_ : Option Value) (hh_ : Heap) (LL_ : List Loc) : Prop := ∃ t : Addr, ∃ kB : ClassId, vv_ = none ∧ Fr n0 LL_ ∧ Keep h0 hh_ [x] ∧ h0.size ≤ t ∧ Fld Z hh_ x "java/lang/String" "value" "[B" (.ref t) ∧ Fld Z hh_ x "java/lang/String" "coder" "B" (.int 0) ∧ Arv Z hh_ t kB .byte (2 : Int32) [(.int c0.toInt8.toInt32), (.int c1.toInt8.toInt32)] (.int 0)
set_option maxRecDepth 65536 in
set_option maxHeartbeats 40000000 in
theorem rmS4_2 (l : Launch) (Z : State) (a0 : Array Value) (hw : ∀ d ∈ tables_1, d.before a0 Z = true) (ws : List Jvm.Cond) (zC : Int32) (vF : Value) (hvF : vF.isRef = true) (GS : Glob Z zC vF hvF) (x : Addr) (b : Addr) (kC : ClassId) (c0 : Int32) (c1 : Int32) (h0 : Heap) (n0 : Nat) (Z0 : n0 ≤ h0.size) (O0 : Old Z n0 h0) (E_x : Exa Z h0 x "java/lang/String") (g_x : n0 ≤ x) (Fv : Fld Z h0 x "java/lang/String" "value" "[B" .null) (Fc : Fld Z h0 x "java/lang/String" "coder" "B" (.int 0)) (Vb : Arv Z h0 b kC .char (2 : Int32) [.int c0, .int c1] (.int 0)) (hbx : b ≠ x) (hp0 : ¬ (255 : Int32) < c0) (hp1 : ¬ (255 : Int32) < c1) :
  MetFree l (⟨"java/lang/String", "<init>", "([CIILjava/lang/Void;)V"⟩ : MethodName) (head1 (Jvm.Cond.code (⟨"java/lang/String", "<init>", "([CIILjava/lang/Void;)V"⟩ : MethodName) jdk_42_method_149_code 6 none :: ws) (⟨2, 1, 2, 35⟩ : Room)) (fun aa_ UU_ => aa_ = #[.ref x, .ref b, .int 0, .int 2, .null] ∧ Z.Warmed39 UU_.vm ∧ UU_.heap = h0) (fun _ _ _ _ _ => True) (fun _ UU_ oo_ UV_ => ∃ vv_ LL_, oo_ = .returned vv_ ∧ Q_rmS4_2 Z zC vF hvF x b kC c0 c1 h0 n0 vv_ UV_.heap LL_ ∧ FrameEnd UU_ oo_ UV_ LL_ (⟨2, 1, 2, 35⟩ : Room).cells (⟨2, 1, 2, 35⟩ : Room).slots) := by
 refine MetFree.of_bodySF (plainFor_of_name own_pn_java_lang_String) hisR ?_
 intro p e s m args below meth c s₁ Bd hml0 hP hK
 obtain ⟨rfl, hZ, hh⟩ := hP
 have hx := Bd.exec
 have hby := Bd.bytes
 have hml : c.maxLocals = 6 := hml0
 have hown : s.vm.findClass "java/lang/String" = some m.cls := findClass_of_methodNamed Bd.named
 have hnm := (name_of_methodNamed Bd.named Bd.method).1
 have X0 : Stand p l e (⟨2, 1, 2, 35⟩ : Room) s m #[.ref x, .ref b, .int 0, .int 2, .null] below meth c s₁ [] 0 0 := Stand.of_body Bd
 have e0 : s₁.heap = h0 := by rw [← hh, Bd.state]; rfl
 have N0 := Fr.nil n0
 have hn0 : Z.heap.size = n0 := O0.1
 have KT0 : Keep h0 h0 [x] := Keep.refl _ _
 refine own_enter (Φ := fun oo_ UV_ => ∃ vv_ LL_, oo_ = .returned vv_ ∧ Q_rmS4_2 Z zC vF hvF x b kC c0 c1 h0 n0 vv_ UV_.heap LL_ ∧ FrameEnd s oo_ UV_ LL_ (⟨2, 1, 2, 35⟩ : Room).cells (⟨2, 1, 2, 35⟩ : Room).slots) (own_ef_rmS4_2 m x b (0 : Int32) (2 : Int32)) ?_
 have ne1 : b ≠ x := hbx
 refine own_by (T' := s₁) (g' := (mkF m 1 #[.val (.ref x), .val (.ref b), .val (.int 0), .val (.int 2), .val .null, .unset] [.ref x])) (fun _ kt_ => XS.aloadN X0.here hx rfl (hb hby own_d4_0) rfl rfl kt_) ?_
 obtain ⟨T2, X2, e2, st2⟩ := initO X0 hx hZ hown (ww hw 18 rfl) (ww hw 19 rfl) (ww hw 20 rfl) e0 (g := (mkF m 1 #[.val (.ref x), .val (.ref b), .val (.int 0), .val (.int 2), .val .null, .unset] [.ref x])) rfl (by rw [hml]; rfl) rfl (hb hby own_d4_1) (by decide) (W := 0) (by show 2 * 0 + _ ≤ _; exact Nat.le_of_eq rfl) (by decide)
 refine own_by (T' := T2) (g' := (mkF m 4 #[.val (.ref x), .val (.ref b), .val (.int 0), .val (.int 2), .val .null, .unset] [])) st2 ?_
 refine own_by (T' := T2) (g' := (mkF m 5 #[.val (.ref x), .val (.ref b), .val (.int 0), .val (.int 2), .val .null, .unset] [.int 2])) (fun _ kt_ => XS.iloadN X2.here hx rfl (hb hby own_d4_4) rfl kt_) ?_
 refine own_by (T' := T2) (g' := (mkF m 27 #[.val (.ref x), .val (.ref b), .val (.int 0), .val (.int 2), .val .null, .unset] [])) (fun _ kt_ => XS.ifYes X2.here hx rfl (pc0 := 5) (pc' := 27) rfl (hb hby own_d4_5) rfl (XT.i0_ne_t (by decide)) (by decide) (by decide) kt_) ?_
 have f3 := GS.1.ext O0.2
 obtain ⟨T4, X4, e4, st4⟩ := getS2 X2 hx hZ hown (host := "") (Or.inl (ww hw 43 rfl)) Via.refl e2 f3 (g := (mkF m 27 #[.val (.ref x), .val (.ref b), .val (.int 0), .val (.int 2), .val .null, .unset] [])) rfl (hb hby own_d4_27)
 refine own_by (T' := T4) (g' := (mkF m 30 #[.val (.ref x), .val (.ref b), .val (.int 0), .val (.int 2), .val .null, .unset] [.int zC])) st4 ?_
 refine own_by (T' := T4) (g' := (mkF m 33 #[.val (.ref x), .val (.ref b), .val (.int 0), .val (.int 2), .val .null, .unset] [])) (fun _ kt_ => XS.ifNo X4.here hx rfl (hb hby own_d4_30) rfl (XT.i0_eq_f GS.2.1) kt_) ?_
 refine own_by (T' := T4) (g' := (mkF m 34 #[.val (.ref x), .val (.ref b), .val (.int 0), .val (.int 2), .val .null, .unset] [.ref b])) (fun _ kt_ => XS.aloadN X4.here hx rfl (hb hby own_d4_33) rfl rfl kt_) ?_
 refine own_by (T' := T4) (g' := (mkF m 35 #[.val (.ref x), .val (.ref b), .val (.int 0), .val (.int 2), .val .null, .unset] [.int 0, .ref b])) (fun _ kt_ => XS.iloadN X4.here hx rfl (hb hby own_d4_34) rfl kt_) ?_
 refine own_by (T' := T4) (g' := (mkF m 36 #[.val (.ref x), .val (.ref b), .val (.int 0), .val (.int 2), .val .null, .unset] [.int 2, .int 0, .ref b])) (fun _ kt_ => XS.iloadN X4.here hx rfl (hb hby own_d4_35) rfl kt_) ?_
 obtain ⟨_, _, ⟨T5, L5, k5, n5⟩, -, X5, ⟨Lc5, hQ5, l5, y5, z5⟩, st5⟩ := Jvm.LawKit.callS X4 hx (y := (⟨"java/lang/StringUTF16", "compress", "([CII)[B"⟩ : MethodName)) hown (mvT hZ (ww hw 44 rfl)) (mvT hZ (ww hw 45 rfl)) (mvT hZ (ww hw 46 rfl)) (mvT hZ (ww hw 47 rfl)) (by decide) (backOf (W := 0) (rmC3_2 l Z a0 hw [] zC vF hvF GS b kC c0 c1 h0 n0 (by omega) O0 Vb hp0 hp1) hZ (ww hw 47 rfl) (ww hw 46 rfl) (by decide) (by decide)) (g := (mkF m 36 #[.val (.ref x), .val (.ref b), .val (.int 0), .val (.int 2), .val .null, .unset] [.int 2, .int 0, .ref b])) rfl (by rw [hml]; rfl) (argsL := [.ref b, .int 0, .int 2]) (rest := []) (lenOf own_pd_1 rfl) rfl (by show 2 * 0 + _ ≤ _; exact Nat.le_of_eq rfl) (hb hby own_d4_36) (fun _ _ => ⟨rfl, e4, (by decide : 0 + 1 ≤ _), (by decide : 0 + 2 ≤ _)⟩)
 dsimp only [Pt.U, Pt.locs, Pt.cells, Pt.slots] at X5 l5 y5 z5 st5 hQ5
 subst l5 y5 z5
 obtain ⟨d_6, kB_7, rfl, N5q, K5, p5_0, p5_1⟩ := hQ5
 have N8 := Fr.app N0 N5q
 have gd_6 : h0.size ≤ d_6 := p5_0
 have zzK5 : h0.size ≤ T5.heap.size := K5.1
 have oo9 : Old Z n0 T5.heap := O0.keep K5 all0
 have kt10 : Keep h0 T5.heap [x] := KT0.trans K5 all0
 refine own_by (T' := T5) (g' := (mkF m 39 #[.val (.ref x), .val (.ref b), .val (.int 0), .val (.int 2), .val .null, .unset] [.ref d_6])) st5 ?_
 refine own_by (T' := T5) (g' := (mkF m 41 #[.val (.ref x), .val (.ref b), .val (.int 0), .val (.int 2), .val .null, .val (.ref d_6)] [])) (fun _ kt_ => XS.astore X5.here hx rfl (hb hby own_d4_39) rfl rfl (l' := #[.val (.ref x), .val (.ref b), .val (.int 0), .val (.int 2), .val .null, .val (.ref d_6)]) rfl kt_) ?_
 refine own_by (T' := T5) (g' := (mkF m 42 #[.val (.ref x), .val (.ref b), .val (.int 0), .val (.int 2), .val .null, .val (.ref d_6)] [.ref x])) (fun _ kt_ => XS.aloadN X5.here hx rfl (hb hby own_d4_41) rfl rfl kt_) ?_
 refine own_by (T' := T5) (g' := (mkF m 44 #[.val (.ref x), .val (.ref b), .val (.int 0), .val (.int 2), .val .null, .val (.ref d_6)] [.ref d_6, .ref x])) (fun _ kt_ => XS.aload X5.here hx rfl (hb hby own_d4_42) rfl rfl kt_) ?_
 refine own_by (T' := T5) (g' := (mkF m 45 #[.val (.ref x), .val (.ref b), .val (.int 0), .val (.int 2), .val .null, .val (.ref d_6)] [.int 2, .ref d_6, .ref x])) (fun _ kt_ => XS.iloadN X5.here hx rfl (hb hby own_d4_44) rfl kt_) ?_
 obtain ⟨_, _, ⟨T11, L11, k11, n11⟩, -, X11, ⟨Lc11, hQ11, l11, y11, z11⟩, st11⟩ := Jvm.LawKit.callS X5 hx (y := (⟨"java/lang/StringUTF16", "coderFromArrayLen", "([BI)B"⟩ : MethodName)) hown (mvT hZ (ww hw 51 rfl)) (mvT hZ (ww hw 52 rfl)) (mvT hZ (ww hw 46 rfl)) (mvT hZ (ww hw 53 rfl)) (by decide) (backOf (W := 1) (rmCod_2 l Z a0 hw [] zC vF hvF GS d_6 kB_7 c0.toInt8.toInt32 c1.toInt8.toInt32 T5.heap n0 (by omega) oo9 p5_1) hZ (ww hw 53 rfl) (ww hw 46 rfl) (by decide) (by decide)) (g := (mkF m 45 #[.val (.ref x), .val (.ref b), .val (.int 0), .val (.int 2), .val .null, .val (.ref d_6)] [.int 2, .ref d_6, .ref x])) rfl (by rw [hml]; rfl) (argsL := [.ref d_6, .int 2]) (rest := [.ref x]) (lenOf own_pd_2 rfl) rfl (by show 2 * 0 + _ ≤ _; exact Nat.le_of_eq rfl) (hb hby own_d4_45) (fun _ _ => ⟨rfl, rfl, (by decide : 1 + 0 ≤ _), (by decide : 2 + 0 ≤ _)⟩)
 dsimp only [Pt.U, Pt.locs, Pt.cells, Pt.slots] at X11 l11 y11 z11 st11 hQ11
 subst l11 y11 z11
 obtain ⟨rfl, N11q, e11⟩ := hQ11
 have N12 := Fr.app N8 N11q
 refine own_by (T' := T11) (g' := (mkF m 48 #[.val (.ref x), .val (.ref b), .val (.int 0), .val (.int 2), .val .null, .val (.ref d_6)] [.int 0, .ref x])) st11 ?_
 have f13 : Exa Z T5.heap x "java/lang/String" := (E_x.keep K5)
 have f14 : Fld Z T5.heap x "java/lang/String" "coder" "B" (.int 0) := (Fc.keep K5 nin0)
 obtain ⟨T15, h15, X15, e15, W15, st15⟩ := putFN X11 hx hZ hown (ww hw 28 rfl) Via.refl e11 f14 f13 (Or.inr ⟨(ww hw 24 rfl), rfl, hnm⟩) (ww hw 8 rfl) (ty := .byte) (v' := (.int (0 : Int32).toInt8.toInt32)) (by decide) rfl (fits_nar_byte _) (g := (mkF m 48 #[.val (.ref x), .val (.ref b), .val (.int 0), .val (.int 2), .val .null, .val (.ref d_6)] [.int 0, .ref x])) rfl rfl (hb hby own_d4_48)
 have K16 : Keep T5.heap h15 [x] := Keep.of_wr W15
 have f17 : Fld Z T5.heap x "java/lang/String" "value" "[B" .null := (Fv.keep K5 nin0)
 have zzK16 : T5.heap.size ≤ h15.size := K16.1
 have oo18 : Old Z n0 h15 := oo9.keep K16 (allS (by omega : n0 ≤ x) all0)
 have kt19 : Keep h0 h15 [x] := kt10.trans K16 (allS (Or.inl (List.mem_of_getElem? (i := 0) rfl)) all0)
 have f20 : Fld Z h15 x "java/lang/String" "value" "[B" .null := f17.other W15 (Or.inr (slot_ne (Or.inr (ww hw 23 rfl)) (Or.inr (ww hw 24 rfl)) (by decide) (t := (.array .byte)) (t' := .byte) (by decide) (by decide)))
 have f21 : Fld Z h15 x "java/lang/String" "coder" "B" (.int (0 : Int32).toInt8.toInt32) := f14.same W15
 have N22 := Fr.snoc X15 N12 (by omega : n0 ≤ x)
 refine own_by (T' := T15) (g' := (mkF m 51 #[.val (.ref x), .val (.ref b), .val (.int 0), .val (.int 2), .val .null, .val (.ref d_6)] [])) st15 ?_
 refine own_by (T' := T15) (g' := (mkF m 52 #[.val (.ref x), .val (.ref b), .val (.int 0), .val (.int 2), .val .null, .val (.ref d_6)] [.ref x])) (fun _ kt_ => XS.aloadN X15.here hx rfl (hb hby own_d4_51) rfl rfl kt_) ?_
 refine own_by (T' := T15) (g' := (mkF m 54 #[.val (.ref x), .val (.ref b), .val (.int 0), .val (.int 2), .val .null, .val (.ref d_6)] [.ref d_6, .ref x])) (fun _ kt_ => XS.aload X15.here hx rfl (hb hby own_d4_52) rfl rfl kt_) ?_
 have f23 : Exa Z h15 x "java/lang/String" := (f13.keep K16)
 obtain ⟨T24, h24, X24, e24, W24, st24⟩ := putF X15 hx hZ hown (host := "") (Or.inl (ww hw 27 rfl)) Via.refl e15 f20 f23 (Or.inr ⟨(ww hw 23 rfl), rfl, hnm⟩) (ww hw 8 rfl) (ty := (.array .byte)) (by decide) rfl rfl (g := (mkF m 54 #[.val (.ref x), .val (.ref b), .val (.int 0), .val (.int 2), .val .null, .val (.ref d_6)] [.ref d_6, .ref x])) rfl rfl (hb hby own_d4_54)
 have K25 : Keep h15 h24 [x] := Keep.of_wr W24
 have zzK25 : h15.size ≤ h24.size := K25.1
 have oo26 : Old Z n0 h24 := oo18.keep K25 (allS (by omega : n0 ≤ x) all0)
 have kt27 : Keep h0 h24 [x] := kt19.trans K25 (allS (Or.inl (List.mem_of_getElem? (i := 0) rfl)) all0)
 have f28 : Fld Z h24 x "java/lang/String" "value" "[B" (.ref d_6) := f20.same W24
 have f29 : Fld Z h24 x "java/lang/String" "coder" "B" (.int (0 : Int32).toInt8.toInt32) := f21.other W24 (Or.inr (slot_ne (Or.inr (ww hw 24 rfl)) (Or.inr (ww hw 23 rfl)) (by decide) (t := .byte) (t' := (.array .byte)) (by decide) (by decide)))
 have N30 := Fr.snoc X24 N22 (by omega : n0 ≤ x)
 refine own_by (T' := T24) (g' := (mkF m 57 #[.val (.ref x), .val (.ref b), .val (.int 0), .val (.int 2), .val .null, .val (.ref d_6)] [])) st24 ?_
 have la31 : @LT.lt Nat instLTNat d_6 T5.heap.size := p5_1.lt
 have hv32 : ((.int (0 : Int32).toInt8.toInt32) : Value) = (.int 0) := rfl
 have la33 : @LT.lt Nat instLTNat x h0.size := E_x.lt
 have ne34 : @Ne Nat d_6 x := by omega
 have f35 : Arv Z h24 d_6 kB_7 .byte (2 : Int32) [(.int c0.toInt8.toInt32), (.int c1.toInt8.toInt32)] (.int 0) := ((p5_1.keep K16 (ninS ne34 nin0)).keep K25 (ninS ne34 nin0))
 obtain ⟨fs36, hr36, hrun36, hended36, hW36, hsame36⟩ := X24.leave (v := none) (fun _ => rfl)
 refine ⟨_, _, X24.returnOut hx Bd.returns (hb hby own_d4_57) hr36, hrun36, hended36, _, _, rfl, ?_, ⟨_, rfl⟩, hW36, hsame36.mono (by decide) (by decide)⟩
 show Q_rmS4_2 Z zC vF hvF x b kC c0 c1 h0 n0 _ T24.heap _
 rw [e24]
 exact ⟨d_6, kB_7, rfl, N30, kt27, (by omega), f28, (hv32 ▸ f29), f35⟩
theorem own_ef_rmS1_2 (m : MethodId) (x0 : Addr) (x1 : Addr) : entryFrame m #[.ref x0, .ref x1] 2 = mkF m 0 #[.val (.ref x0), .val (.ref x1)] [] := by first | (simp [entryFrame, mkF, argsToLocals, Value.category]; done) | rfl
def Q_rmS1_2 (Z : State) (zC : Int32) (vF : Value) (hvF : vF.isRef = true) (x : Addr) (b : Addr) (kC : ClassId) (c0 : Int32) (c1 : Int32) (h0 : Heap) (n0 : Nat) (vv_ : Option Value) (hh_ : Heap) (LL_ : List Loc) : Prop := ∃ t : Addr, ∃ kB : ClassId, vv_ = none ∧ Fr n0 LL_ ∧ Keep h0 hh_ [x] ∧ h0.size ≤ t ∧ Fld Z hh_ x "java/lang/String" "value" "[B" (.ref t) ∧ Fld Z hh_ x "java/lang/String" "coder" "B" (.int 0) ∧ Arv Z hh_ t kB .byte (2 : Int32) [(.int c0.toInt8.toInt32), (.int c1.toInt8.toInt32)] (.int 0)
set_option maxRecDepth 65536 in
set_option maxHeartbeats 40000000 in
theorem rmS1_2 (l : Launch) (Z : State) (a0 : Array Value) (hw : ∀ d ∈ tables_1, d.before a0 Z = true) (ws : List Jvm.Cond) (zC : Int32) (vF : Value) (hvF : vF.isRef = true) (GS : Glob Z zC vF hvF) (x : Addr) (b : Addr) (kC : ClassId) (c0 : Int32) (c1 : Int32) (h0 : Heap) (n0 : Nat) (Z0 : n0 ≤ h0.size) (O0 : Old Z n0 h0) (E_x : Exa Z h0 x "java/lang/String") (g_x : n0 ≤ x) (Fv : Fld Z h0 x "java/lang/String" "value" "[B" .null) (Fc : Fld Z h0 x "java/lang/String" "coder" "B" (.int 0)) (Vb : Arv Z h0 b kC .char (2 : Int32) [.int c0, .int c1] (.int 0)) (hbx : b ≠ x) (hp0 : ¬ (255 : Int32) < c0) (hp1 : ¬ (255 : Int32) < c1) :
  MetFree l (⟨"java/lang/String", "<init>", "([C)V"⟩ : MethodName) (head1 (Jvm.Cond.code (⟨"java/lang/String", "<init>", "([C)V"⟩ : MethodName) jdk_42_method_3_code 2 none :: ws) (⟨3, 1, 2, 52⟩ : Room)) (fun aa_ UU_ => aa_ = #[.ref x, .ref b] ∧ Z.Warmed39 UU_.vm ∧ UU_.heap = h0) (fun _ _ _ _ _ => True) (fun _ UU_ oo_ UV_ => ∃ vv_ LL_, oo_ = .returned vv_ ∧ Q_rmS1_2 Z zC vF hvF x b kC c0 c1 h0 n0 vv_ UV_.heap LL_ ∧ FrameEnd UU_ oo_ UV_ LL_ (⟨3, 1, 2, 52⟩ : Room).cells (⟨3, 1, 2, 52⟩ : Room).slots) := by
 refine MetFree.of_bodySF (plainFor_of_name own_pn_java_lang_String) hisR ?_
 intro p e s m args below meth c s₁ Bd hml0 hP hK
 obtain ⟨rfl, hZ, hh⟩ := hP
 have hx := Bd.exec
 have hby := Bd.bytes
 have hml : c.maxLocals = 2 := hml0
 have hown : s.vm.findClass "java/lang/String" = some m.cls := findClass_of_methodNamed Bd.named
 have hnm := (name_of_methodNamed Bd.named Bd.method).1
 have X0 : Stand p l e (⟨3, 1, 2, 52⟩ : Room) s m #[.ref x, .ref b] below meth c s₁ [] 0 0 := Stand.of_body Bd
 have e0 : s₁.heap = h0 := by rw [← hh, Bd.state]; rfl
 have N0 := Fr.nil n0
 have hn0 : Z.heap.size = n0 := O0.1
 have KT0 : Keep h0 h0 [x] := Keep.refl _ _
 refine own_enter (Φ := fun oo_ UV_ => ∃ vv_ LL_, oo_ = .returned vv_ ∧ Q_rmS1_2 Z zC vF hvF x b kC c0 c1 h0 n0 vv_ UV_.heap LL_ ∧ FrameEnd s oo_ UV_ LL_ (⟨3, 1, 2, 52⟩ : Room).cells (⟨3, 1, 2, 52⟩ : Room).slots) (own_ef_rmS1_2 m x b) ?_
 have ne1 : b ≠ x := hbx
 refine own_by (T' := s₁) (g' := (mkF m 1 #[.val (.ref x), .val (.ref b)] [.ref x])) (fun _ kt_ => XS.aloadN X0.here hx rfl (hb hby own_d3_0) rfl rfl kt_) ?_
 refine own_by (T' := s₁) (g' := (mkF m 2 #[.val (.ref x), .val (.ref b)] [.ref b, .ref x])) (fun _ kt_ => XS.aloadN X0.here hx rfl (hb hby own_d3_1) rfl rfl kt_) ?_
 refine own_by (T' := s₁) (g' := (mkF m 3 #[.val (.ref x), .val (.ref b)] [.int 0, .ref b, .ref x])) (fun _ kt_ => XS.iconst X0.here hx rfl (hb hby own_d3_2) kt_) ?_
 refine own_by (T' := s₁) (g' := (mkF m 4 #[.val (.ref x), .val (.ref b)] [.ref b, .int 0, .ref b, .ref x])) (fun _ kt_ => XS.aloadN X0.here hx rfl (hb hby own_d3_3) rfl rfl kt_) ?_
 obtain ⟨cl2, Ar2, q2, S2, M2, H2, G2⟩ := id Vb
 refine own_by (T' := s₁) (g' := (mkF m 5 #[.val (.ref x), .val (.ref b)] [.int 2, .int 0, .ref b, .ref x])) (fun _ kt_ => X0.arraylength hx (by rw [e0]; exact Ar2.1) (State.isArrayOf_alike hZ.alike Ar2.2.1) (g := (mkF m 4 #[.val (.ref x), .val (.ref b)] [.ref b, .int 0, .ref b, .ref x])) rfl rfl (hb hby own_d3_4) _ (by rw [len_of S2 M2]; exact kt_)) ?_
 refine own_by (T' := s₁) (g' := (mkF m 6 #[.val (.ref x), .val (.ref b)] [.null, .int 2, .int 0, .ref b, .ref x])) (fun _ kt_ => XS.aconstNull X0.here hx rfl (hb hby own_d3_5) kt_) ?_
 have la3 : @LT.lt Nat instLTNat x h0.size := E_x.lt
 obtain ⟨_, _, ⟨T4, L4, k4, n4⟩, -, X4, ⟨Lc4, hQ4, l4, y4, z4⟩, st4⟩ := X0.specialBack hx (y := (⟨"java/lang/String", "<init>", "([CIILjava/lang/Void;)V"⟩ : MethodName)) rfl hown (mvT hZ (ww hw 14 rfl)) (mvT hZ (ww hw 15 rfl)) (mvT hZ (ww hw 17 rfl)) (by decide) (backOf (W := 0) (rmS4_2 l Z a0 hw [] zC vF hvF GS x b kC c0 c1 h0 n0 (by omega) O0 E_x (by omega) Fv Fc Vb hbx hp0 hp1) hZ (ww hw 17 rfl) (ww hw 9 rfl) (by decide) (by decide)) (g := (mkF m 6 #[.val (.ref x), .val (.ref b)] [.null, .int 2, .int 0, .ref b, .ref x])) rfl (by rw [hml]; rfl) (Steps.refl _) (a := x) (argsL := [.ref b, .int 0, .int 2, .null]) (rest := []) (lenOf own_pd_3 rfl) rfl (by show 2 * 0 + _ ≤ _; exact Nat.le_of_eq rfl) (hb hby own_d3_6) (fun _ _ => ⟨rfl, e0, (by decide : 0 + 1 ≤ _), (by decide : 0 + 2 ≤ _)⟩)
 dsimp only [Pt.U, Pt.locs, Pt.cells, Pt.slots] at X4 l4 y4 z4 st4 hQ4
 subst l4 y4 z4
 obtain ⟨t_5, kB_6, rfl, N4q, K4, p4_0, p4_1, p4_2, p4_3⟩ := hQ4
 have N7 := Fr.app N0 N4q
 have gt_5 : h0.size ≤ t_5 := p4_0
 have zzK4 : h0.size ≤ T4.heap.size := K4.1
 have oo8 : Old Z n0 T4.heap := O0.keep K4 (allS (by omega : n0 ≤ x) all0)
 have kt9 : Keep h0 T4.heap [x] := KT0.trans K4 (allS (Or.inl (List.mem_of_getElem? (i := 0) rfl)) all0)
 refine own_by (T' := T4) (g' := (mkF m 9 #[.val (.ref x), .val (.ref b)] [])) (fun _ kt_ => st4.trans kt_) ?_
 have la10 : @LT.lt Nat instLTNat t_5 T4.heap.size := p4_3.lt
 obtain ⟨fs11, hr11, hrun11, hended11, hW11, hsame11⟩ := X4.leave (v := none) (fun _ => rfl)
 refine ⟨_, _, X4.returnOut hx Bd.returns (hb hby own_d3_9) hr11, hrun11, hended11, _, _, rfl, ?_, ⟨_, rfl⟩, hW11, hsame11.mono (by decide) (by decide)⟩
 show Q_rmS1_2 Z zC vF hvF x b kC c0 c1 h0 n0 _ T4.heap _
 exact ⟨t_5, kB_6, rfl, N7, kt9, (by omega), p4_1, p4_2, p4_3⟩
theorem own_ef_rmC5_3 (m : MethodId) (x0 : Addr) (x1 : Int32) (x2 : Addr) (x3 : Int32) (x4 : Int32) : entryFrame m #[.ref x0, .int x1, .ref x2, .int x3, .int x4] 7 = mkF m 0 #[.val (.ref x0), .val (.int x1), .val (.ref x2), .val (.int x3), .val (.int x4), .unset, .unset] [] := by first | (simp [entryFrame, mkF, argsToLocals, Value.category]; done) | rfl
def Q_rmC5_3 (Z : State) (zC : Int32) (vF : Value) (hvF : vF.isRef = true) (b : Addr) (d : Addr) (kC : ClassId) (kB : ClassId) (c0 : Int32) (c1 : Int32) (c2 : Int32) (h0 : Heap) (n0 : Nat) (vv_ : Option Value) (hh_ : Heap) (LL_ : List Loc) : Prop := vv_ = some (.int 3) ∧ Fr n0 LL_ ∧ Keep h0 hh_ [d] ∧ Arv Z hh_ d kB .byte (3 : Int32) [(.int c0.toInt8.toInt32), (.int c1.toInt8.toInt32), (.int c2.toInt8.toInt32)] (.int 0)
set_option maxRecDepth 65536 in
set_option maxHeartbeats 40000000 in
theorem rmC5_3 (l : Launch) (Z : State) (a0 : Array Value) (hw : ∀ d ∈ tables_1, d.before a0 Z = true) (ws : List Jvm.Cond) (zC : Int32) (vF : Value) (hvF : vF.isRef = true) (GS : Glob Z zC vF hvF) (b : Addr) (d : Addr) (kC : ClassId) (kB : ClassId) (c0 : Int32) (c1 : Int32) (c2 : Int32) (h0 : Heap) (n0 : Nat) (Z0 : n0 ≤ h0.size) (O0 : Old Z n0 h0) (Vb : Arv Z h0 b kC .char (3 : Int32) [.int c0, .int c1, .int c2] (.int 0)) (Vd : Arv Z h0 d kB .byte (3 : Int32) [.int 0, .int 0, .int 0] (.int 0)) (gd : n0 ≤ d) (hbd : b ≠ d) (hp0 : ¬ (255 : Int32) < c0) (hp1 : ¬ (255 : Int32) < c1) (hp2 : ¬ (255 : Int32) < c2) :
  MetFree l (⟨"java/lang/StringUTF16", "compress", "([CI[BII)I"⟩ : MethodName) (head1 (Jvm.Cond.code (⟨"java/lang/StringUTF16", "compress", "([CI[BII)I"⟩ : MethodName) jdk_52_method_21_code 7 (some .int) :: ws) (⟨0, 0, 0, 0⟩ : Room)) (fun aa_ UU_ => aa_ = #[.ref b, .int 0, .ref d, .int 0, .int 3] ∧ Z.Warmed39 UU_.vm ∧ UU_.heap = h0) (fun _ _ _ _ _ => True) (fun _ UU_ oo_ UV_ => ∃ vv_ LL_, oo_ = .returned vv_ ∧ Q_rmC5_3 Z zC vF hvF b d kC kB c0 c1 c2 h0 n0 vv_ UV_.heap LL_ ∧ FrameEnd UU_ oo_ UV_ LL_ (⟨0, 0, 0, 0⟩ : Room).cells (⟨0, 0, 0, 0⟩ : Room).slots) := by
 refine MetFree.of_bodySF (plainFor_of_name own_pn_java_lang_StringUTF16) hisR ?_
 intro p e s m args below meth c s₁ Bd hml0 hP hK
 obtain ⟨rfl, hZ, hh⟩ := hP
 have hx := Bd.exec
 have hby := Bd.bytes
 have hml : c.maxLocals = 7 := hml0
 have hown : s.vm.findClass "java/lang/StringUTF16" = some m.cls := findClass_of_methodNamed Bd.named
 have hnm := (name_of_methodNamed Bd.named Bd.method).1
 have X0 : Stand p l e (⟨0, 0, 0, 0⟩ : Room) s m #[.ref b, .int 0, .ref d, .int 0, .int 3] below meth c s₁ [] 0 0 := Stand.of_body Bd
 have e0 : s₁.heap = h0 := by rw [← hh, Bd.state]; rfl
 have N0 := Fr.nil n0
 have hn0 : Z.heap.size = n0 := O0.1
 have KT0 : Keep h0 h0 [d] := Keep.refl _ _
 refine own_enter (Φ := fun oo_ UV_ => ∃ vv_ LL_, oo_ = .returned vv_ ∧ Q_rmC5_3 Z zC vF hvF b d kC kB c0 c1 c2 h0 n0 vv_ UV_.heap LL_ ∧ FrameEnd s oo_ UV_ LL_ (⟨0, 0, 0, 0⟩ : Room).cells (⟨0, 0, 0, 0⟩ : Room).slots) (own_ef_rmC5_3 m b (0 : Int32) d (0 : Int32) (3 : Int32)) ?_
 have ne1 : b ≠ d := hbd
 refine own_by (T' := s₁) (g' := (mkF m 1 #[.val (.ref b), .val (.int 0), .val (.ref d), .val (.int 0), .val (.int 3), .unset, .unset] [.int 0])) (fun _ kt_ => XS.iconst X0.here hx rfl (hb hby own_d10_0) kt_) ?_
 refine own_by (T' := s₁) (g' := (mkF m 3 #[.val (.ref b), .val (.int 0), .val (.ref d), .val (.int 0), .val (.int 3), .val (.int 0), .unset] [])) (fun _ kt_ => XS.istore X0.here hx rfl (hb hby own_d10_1) rfl (l' := #[.val (.ref b), .val (.int 0), .val (.ref d), .val (.int 0), .val (.int 3), .val (.int 0), .unset]) rfl kt_) ?_
 refine own_by (T' := s₁) (g' := (mkF m 5 #[.val (.ref b), .val (.int 0), .val (.ref d), .val (.int 0), .val (.int 3), .val (.int 0), .unset] [.int 0])) (fun _ kt_ => XS.iload X0.here hx rfl (hb hby own_d10_3) rfl kt_) ?_
 refine own_by (T' := s₁) (g' := (mkF m 7 #[.val (.ref b), .val (.int 0), .val (.ref d), .val (.int 0), .val (.int 3), .val (.int 0), .unset] [.int 3, .int 0])) (fun _ kt_ => XS.iload X0.here hx rfl (hb hby own_d10_5) rfl kt_) ?_
 refine own_by (T' := s₁) (g' := (mkF m 10 #[.val (.ref b), .val (.int 0), .val (.ref d), .val (.int 0), .val (.int 3), .val (.int 0), .unset] [])) (fun _ kt_ => XS.icmpNo X0.here hx rfl (hb hby own_d10_7) rfl (XT.ii_ge_f (by decide)) kt_) ?_
 refine own_by (T' := s₁) (g' := (mkF m 11 #[.val (.ref b), .val (.int 0), .val (.ref d), .val (.int 0), .val (.int 3), .val (.int 0), .unset] [.ref b])) (fun _ kt_ => XS.aloadN X0.here hx rfl (hb hby own_d10_10) rfl rfl kt_) ?_
 refine own_by (T' := s₁) (g' := (mkF m 12 #[.val (.ref b), .val (.int 0), .val (.ref d), .val (.int 0), .val (.int 3), .val (.int 0), .unset] [.int 0, .ref b])) (fun _ kt_ => XS.iloadN X0.here hx rfl (hb hby own_d10_11) rfl kt_) ?_
 obtain ⟨cl2, Ar2, q2, S2, M2, H2, G2⟩ := id Vb
 have hin2 : ¬ ((0 : Int32) < 0 ∨ cl2.slots.size ≤ ((0 : Int32)).toNatClampNeg) := inb_of S2 ⟨by decide, by decide⟩
 have hat2 : cl2.slots[((0 : Int32)).toNatClampNeg]? = some (.int c0) := H2.at hin2 rfl
 refine own_by (T' := s₁) (g' := (mkF m 13 #[.val (.ref b), .val (.int 0), .val (.ref d), .val (.int 0), .val (.int 3), .val (.int 0), .unset] [.int c0])) (fun _ kt_ => X0.caload hx (j := (0 : Int32)) (v := (.int c0)) (by rw [e0]; exact Ar2.1) (State.isArrayOf_alike hZ.alike Ar2.2.1) Ar2.2.2 hin2 hat2 (g := (mkF m 12 #[.val (.ref b), .val (.int 0), .val (.ref d), .val (.int 0), .val (.int 3), .val (.int 0), .unset] [.int 0, .ref b])) rfl rfl (hb hby own_d10_12) _ kt_) ?_
 refine own_by (T' := s₁) (g' := (mkF m 15 #[.val (.ref b), .val (.int 0), .val (.ref d), .val (.int 0), .val (.int 3), .val (.int 0), .val (.int c0)] [])) (fun _ kt_ => XS.istore X0.here hx rfl (hb hby own_d10_13) rfl (l' := #[.val (.ref b), .val (.int 0), .val (.ref d), .val (.int 0), .val (.int 3), .val (.int 0), .val (.int c0)]) rfl kt_) ?_
 refine own_by (T' := s₁) (g' := (mkF m 17 #[.val (.ref b), .val (.int 0), .val (.ref d), .val (.int 0), .val (.int 3), .val (.int 0), .val (.int c0)] [.int c0])) (fun _ kt_ => XS.iload X0.here hx rfl (hb hby own_d10_15) rfl kt_) ?_
 refine own_by (T' := s₁) (g' := (mkF m 20 #[.val (.ref b), .val (.int 0), .val (.ref d), .val (.int 0), .val (.int 3), .val (.int 0), .val (.int c0)] [.int 255, .int c0])) (fun _ kt_ => XS.sipush X0.here hx rfl (hb hby own_d10_17) kt_) ?_
 refine own_by (T' := s₁) (g' := (mkF m 26 #[.val (.ref b), .val (.int 0), .val (.ref d), .val (.int 0), .val (.int 3), .val (.int 0), .val (.int c0)] [])) (fun _ kt_ => XS.icmpYes X0.here hx rfl (pc0 := 20) (pc' := 26) rfl (hb hby own_d10_20) rfl (XT.ii_le_t hp0) (by decide) (by decide) kt_) ?_
 refine own_by (T' := s₁) (g' := (mkF m 27 #[.val (.ref b), .val (.int 0), .val (.ref d), .val (.int 0), .val (.int 3), .val (.int 0), .val (.int c0)] [.ref d])) (fun _ kt_ => XS.aloadN X0.here hx rfl (hb hby own_d10_26) rfl rfl kt_) ?_
 refine own_by (T' := s₁) (g' := (mkF m 28 #[.val (.ref b), .val (.int 0), .val (.ref d), .val (.int 0), .val (.int 3), .val (.int 0), .val (.int c0)] [.int 0, .ref d])) (fun _ kt_ => XS.iloadN X0.here hx rfl (hb hby own_d10_27) rfl kt_) ?_
 refine own_by (T' := s₁) (g' := (mkF m 30 #[.val (.ref b), .val (.int 0), .val (.ref d), .val (.int 0), .val (.int 3), .val (.int 0), .val (.int c0)] [.int c0, .int 0, .ref d])) (fun _ kt_ => XS.iload X0.here hx rfl (hb hby own_d10_28) rfl kt_) ?_
 refine own_by (T' := s₁) (g' := (mkF m 31 #[.val (.ref b), .val (.int 0), .val (.ref d), .val (.int 0), .val (.int 3), .val (.int 0), .val (.int c0)] [(.int c0.toInt8.toInt32), .int 0, .ref d])) (fun _ kt_ => XS.i2b X0.here hx rfl (hb hby own_d10_30) rfl kt_) ?_
 obtain ⟨cl3, Ar3, q3, S3, M3, H3, G3⟩ := id Vd
 have hin3 : ¬ ((0 : Int32) < 0 ∨ cl3.slots.size ≤ ((0 : Int32)).toNatClampNeg) := inb_of S3 ⟨by decide, by decide⟩
 obtain ⟨T3, h3, X3, e3, W3, st3⟩ := stB X0 hx hZ e0 Ar3 (j := (0 : Int32)) hin3 (g := (mkF m 31 #[.val (.ref b), .val (.int 0), .val (.ref d), .val (.int 0), .val (.int 3), .val (.int 0), .val (.int c0)] [(.int c0.toInt8.toInt32), .int 0, .ref d])) rfl rfl (hb hby own_d10_31)
 rw [show nar .byte c0.toInt8.toInt32 = c0.toInt8.toInt32 from own_narB _] at W3
 have K4 : Keep h0 h3 [d] := Keep.of_wr W3
 have zzK4 : h0.size ≤ h3.size := K4.1
 have oo5 : Old Z n0 h3 := O0.keep K4 (allS (by omega : n0 ≤ d) all0)
 have kt6 : Keep h0 h3 [d] := KT0.trans K4 (allS (Or.inl (List.mem_of_getElem? (i := 0) rfl)) all0)
 have f7 : Arv Z h3 d kB .byte (3 : Int32) [(.int c0.toInt8.toInt32), .int 0, .int 0] (.int 0) := Arv.set Ar3 q3 S3 M3 H3 G3 (fits_nar_byte _) W3 0 rfl (Nat.le_of_ble_eq_true rfl)
 have N8 := Fr.snoc X3 N0 (by omega : n0 ≤ d)
 refine own_by (T' := T3) (g' := (mkF m 32 #[.val (.ref b), .val (.int 0), .val (.ref d), .val (.int 0), .val (.int 3), .val (.int 0), .val (.int c0)] [])) st3 ?_
 refine own_by (T' := T3) (g' := (mkF m 35 #[.val (.ref b), .val (.int ((0 : Int32) + (1 : Int32))), .val (.ref d), .val (.int 0), .val (.int 3), .val (.int 0), .val (.int c0)] [])) (fun _ kt_ => XS.iinc X3.here hx rfl (hb hby own_d10_32) rfl (l' := #[.val (.ref b), .val (.int ((0 : Int32) + (1 : Int32))), .val (.ref d), .val (.int 0), .val (.int 3), .val (.int 0), .val (.int c0)]) rfl kt_) ?_
 rw [show ((0 : Int32) + (1 : Int32)) = (1 : Int32) from by decide]
 refine own_by (T' := T3) (g' := (mkF m 38 #[.val (.ref b), .val (.int 1), .val (.ref d), .val (.int ((0 : Int32) + (1 : Int32))), .val (.int 3), .val (.int 0), .val (.int c0)] [])) (fun _ kt_ => XS.iinc X3.here hx rfl (hb hby own_d10_35) rfl (l' := #[.val (.ref b), .val (.int 1), .val (.ref d), .val (.int ((0 : Int32) + (1 : Int32))), .val (.int 3), .val (.int 0), .val (.int c0)]) rfl kt_) ?_
 rw [show ((0 : Int32) + (1 : Int32)) = (1 : Int32) from by decide]
 refine own_by (T' := T3) (g' := (mkF m 41 #[.val (.ref b), .val (.int 1), .val (.ref d), .val (.int 1), .val (.int 3), .val (.int ((0 : Int32) + (1 : Int32))), .val (.int c0)] [])) (fun _ kt_ => XS.iinc X3.here hx rfl (hb hby own_d10_38) rfl (l' := #[.val (.ref b), .val (.int 1), .val (.ref d), .val (.int 1), .val (.int 3), .val (.int ((0 : Int32) + (1 : Int32))), .val (.int c0)]) rfl kt_) ?_
 rw [show ((0 : Int32) + (1 : Int32)) = (1 : Int32) from by decide]
 refine own_by (T' := T3) (g' := (mkF m 3 #[.val (.ref b), .val (.int 1), .val (.ref d), .val (.int 1), .val (.int 3), .val (.int 1), .val (.int c0)] [])) (fun _ kt_ => XS.goto X3.here hx rfl (pc0 := 41) (pc' := 3) rfl (hb hby own_d10_41) (by decide) (by decide) kt_) ?_
 refine own_by (T' := T3) (g' := (mkF m 5 #[.val (.ref b), .val (.int 1), .val (.ref d), .val (.int 1), .val (.int 3), .val (.int 1), .val (.int c0)] [.int 1])) (fun _ kt_ => XS.iload X3.here hx rfl (hb hby own_d10_3) rfl kt_) ?_
 refine own_by (T' := T3) (g' := (mkF m 7 #[.val (.ref b), .val (.int 1), .val (.ref d), .val (.int 1), .val (.int 3), .val (.int 1), .val (.int c0)] [.int 3, .int 1])) (fun _ kt_ => XS.iload X3.here hx rfl (hb hby own_d10_5) rfl kt_) ?_
 refine own_by (T' := T3) (g' := (mkF m 10 #[.val (.ref b), .val (.int 1), .val (.ref d), .val (.int 1), .val (.int 3), .val (.int 1), .val (.int c0)] [])) (fun _ kt_ => XS.icmpNo X3.here hx rfl (hb hby own_d10_7) rfl (XT.ii_ge_f (by decide)) kt_) ?_
 refine own_by (T' := T3) (g' := (mkF m 11 #[.val (.ref b), .val (.int 1), .val (.ref d), .val (.int 1), .val (.int 3), .val (.int 1), .val (.int c0)] [.ref b])) (fun _ kt_ => XS.aloadN X3.here hx rfl (hb hby own_d10_10) rfl rfl kt_) ?_
 refine own_by (T' := T3) (g' := (mkF m 12 #[.val (.ref b), .val (.int 1), .val (.ref d), .val (.int 1), .val (.int 3), .val (.int 1), .val (.int c0)] [.int 1, .ref b])) (fun _ kt_ => XS.iloadN X3.here hx rfl (hb hby own_d10_11) rfl kt_) ?_
 have f10 : Arv Z h3 b kC .char (3 : Int32) [.int c0, .int c1, .int c2] (.int 0) := (Vb.keep K4 (ninS ne1 nin0))
 obtain ⟨cl9, Ar9, q9, S9, M9, H9, G9⟩ := id f10
 have hin9 : ¬ ((1 : Int32) < 0 ∨ cl9.slots.size ≤ ((1 : Int32)).toNatClampNeg) := inb_of S9 ⟨by decide, by decide⟩
 have hat9 : cl9.slots[((1 : Int32)).toNatClampNeg]? = some (.int c1) := H9.at hin9 rfl
 refine own_by (T' := T3) (g' := (mkF m 13 #[.val (.ref b), .val (.int 1), .val (.ref d), .val (.int 1), .val (.int 3), .val (.int 1), .val (.int c0)] [.int c1])) (fun _ kt_ => X3.caload hx (j := (1 : Int32)) (v := (.int c1)) (by rw [e3]; exact Ar9.1) (State.isArrayOf_alike hZ.alike Ar9.2.1) Ar9.2.2 hin9 hat9 (g := (mkF m 12 #[.val (.ref b), .val (.int 1), .val (.ref d), .val (.int 1), .val (.int 3), .val (.int 1), .val (.int c0)] [.int 1, .ref b])) rfl rfl (hb hby own_d10_12) _ kt_) ?_
 refine own_by (T' := T3) (g' := (mkF m 15 #[.val (.ref b), .val (.int 1), .val (.ref d), .val (.int 1), .val (.int 3), .val (.int 1), .val (.int c1)] [])) (fun _ kt_ => XS.istore X3.here hx rfl (hb hby own_d10_13) rfl (l' := #[.val (.ref b), .val (.int 1), .val (.ref d), .val (.int 1), .val (.int 3), .val (.int 1), .val (.int c1)]) rfl kt_) ?_
 refine own_by (T' := T3) (g' := (mkF m 17 #[.val (.ref b), .val (.int 1), .val (.ref d), .val (.int 1), .val (.int 3), .val (.int 1), .val (.int c1)] [.int c1])) (fun _ kt_ => XS.iload X3.here hx rfl (hb hby own_d10_15) rfl kt_) ?_
 refine own_by (T' := T3) (g' := (mkF m 20 #[.val (.ref b), .val (.int 1), .val (.ref d), .val (.int 1), .val (.int 3), .val (.int 1), .val (.int c1)] [.int 255, .int c1])) (fun _ kt_ => XS.sipush X3.here hx rfl (hb hby own_d10_17) kt_) ?_
 refine own_by (T' := T3) (g' := (mkF m 26 #[.val (.ref b), .val (.int 1), .val (.ref d), .val (.int 1), .val (.int 3), .val (.int 1), .val (.int c1)] [])) (fun _ kt_ => XS.icmpYes X3.here hx rfl (pc0 := 20) (pc' := 26) rfl (hb hby own_d10_20) rfl (XT.ii_le_t hp1) (by decide) (by decide) kt_) ?_
 refine own_by (T' := T3) (g' := (mkF m 27 #[.val (.ref b), .val (.int 1), .val (.ref d), .val (.int 1), .val (.int 3), .val (.int 1), .val (.int c1)] [.ref d])) (fun _ kt_ => XS.aloadN X3.here hx rfl (hb hby own_d10_26) rfl rfl kt_) ?_
 refine own_by (T' := T3) (g' := (mkF m 28 #[.val (.ref b), .val (.int 1), .val (.ref d), .val (.int 1), .val (.int 3), .val (.int 1), .val (.int c1)] [.int 1, .ref d])) (fun _ kt_ => XS.iloadN X3.here hx rfl (hb hby own_d10_27) rfl kt_) ?_
 refine own_by (T' := T3) (g' := (mkF m 30 #[.val (.ref b), .val (.int 1), .val (.ref d), .val (.int 1), .val (.int 3), .val (.int 1), .val (.int c1)] [.int c1, .int 1, .ref d])) (fun _ kt_ => XS.iload X3.here hx rfl (hb hby own_d10_28) rfl kt_) ?_
 refine own_by (T' := T3) (g' := (mkF m 31 #[.val (.ref b), .val (.int 1), .val (.ref d), .val (.int 1), .val (.int 3), .val (.int 1), .val (.int c1)] [(.int c1.toInt8.toInt32), .int 1, .ref d])) (fun _ kt_ => XS.i2b X3.here hx rfl (hb hby own_d10_30) rfl kt_) ?_
 obtain ⟨cl11, Ar11, q11, S11, M11, H11, G11⟩ := id f7
 have hin11 : ¬ ((1 : Int32) < 0 ∨ cl11.slots.size ≤ ((1 : Int32)).toNatClampNeg) := inb_of S11 ⟨by decide, by decide⟩
 obtain ⟨T11, h11, X11, e11, W11, st11⟩ := stB X3 hx hZ e3 Ar11 (j := (1 : Int32)) hin11 (g := (mkF m 31 #[.val (.ref b), .val (.int 1), .val (.ref d), .val (.int 1), .val (.int 3), .val (.int 1), .val (.int c1)] [(.int c1.toInt8.toInt32), .int 1, .ref d])) rfl rfl (hb hby own_d10_31)
 rw [show nar .byte c1.toInt8.toInt32 = c1.toInt8.toInt32 from own_narB _] at W11
 have K12 : Keep h3 h11 [d] := Keep.of_wr W11
 have zzK12 : h3.size ≤ h11.size := K12.1
 have oo13 : Old Z n0 h11 := oo5.keep K12 (allS (by omega : n0 ≤ d) all0)
 have kt14 : Keep h0 h11 [d] := kt6.trans K12 (allS (Or.inl (List.mem_of_getElem? (i := 0) rfl)) all0)
 have f15 : Arv Z h11 d kB .byte (3 : Int32) [(.int c0.toInt8.toInt32), (.int c1.toInt8.toInt32), .int 0] (.int 0) := Arv.set Ar11 q11 S11 M11 H11 G11 (fits_nar_byte _) W11 1 rfl (Nat.le_of_ble_eq_true rfl)
 have N16 := Fr.snoc X11 N8 (by omega : n0 ≤ d)
 refine own_by (T' := T11) (g' := (mkF m 32 #[.val (.ref b), .val (.int 1), .val (.ref d), .val (.int 1), .val (.int 3), .val (.int 1), .val (.int c1)] [])) st11 ?_
 refine own_by (T' := T11) (g' := (mkF m 35 #[.val (.ref b), .val (.int ((1 : Int32) + (1 : Int32))), .val (.ref d), .val (.int 1), .val (.int 3), .val (.int 1), .val (.int c1)] [])) (fun _ kt_ => XS.iinc X11.here hx rfl (hb hby own_d10_32) rfl (l' := #[.val (.ref b), .val (.int ((1 : Int32) + (1 : Int32))), .val (.ref d), .val (.int 1), .val (.int 3), .val (.int 1), .val (.int c1)]) rfl kt_) ?_
 rw [show ((1 : Int32) + (1 : Int32)) = (2 : Int32) from by decide]
 refine own_by (T' := T11) (g' := (mkF m 38 #[.val (.ref b), .val (.int 2), .val (.ref d), .val (.int ((1 : Int32) + (1 : Int32))), .val (.int 3), .val (.int 1), .val (.int c1)] [])) (fun _ kt_ => XS.iinc X11.here hx rfl (hb hby own_d10_35) rfl (l' := #[.val (.ref b), .val (.int 2), .val (.ref d), .val (.int ((1 : Int32) + (1 : Int32))), .val (.int 3), .val (.int 1), .val (.int c1)]) rfl kt_) ?_
 rw [show ((1 : Int32) + (1 : Int32)) = (2 : Int32) from by decide]
 refine own_by (T' := T11) (g' := (mkF m 41 #[.val (.ref b), .val (.int 2), .val (.ref d), .val (.int 2), .val (.int 3), .val (.int ((1 : Int32) + (1 : Int32))), .val (.int c1)] [])) (fun _ kt_ => XS.iinc X11.here hx rfl (hb hby own_d10_38) rfl (l' := #[.val (.ref b), .val (.int 2), .val (.ref d), .val (.int 2), .val (.int 3), .val (.int ((1 : Int32) + (1 : Int32))), .val (.int c1)]) rfl kt_) ?_
 rw [show ((1 : Int32) + (1 : Int32)) = (2 : Int32) from by decide]
 refine own_by (T' := T11) (g' := (mkF m 3 #[.val (.ref b), .val (.int 2), .val (.ref d), .val (.int 2), .val (.int 3), .val (.int 2), .val (.int c1)] [])) (fun _ kt_ => XS.goto X11.here hx rfl (pc0 := 41) (pc' := 3) rfl (hb hby own_d10_41) (by decide) (by decide) kt_) ?_
 refine own_by (T' := T11) (g' := (mkF m 5 #[.val (.ref b), .val (.int 2), .val (.ref d), .val (.int 2), .val (.int 3), .val (.int 2), .val (.int c1)] [.int 2])) (fun _ kt_ => XS.iload X11.here hx rfl (hb hby own_d10_3) rfl kt_) ?_
 refine own_by (T' := T11) (g' := (mkF m 7 #[.val (.ref b), .val (.int 2), .val (.ref d), .val (.int 2), .val (.int 3), .val (.int 2), .val (.int c1)] [.int 3, .int 2])) (fun _ kt_ => XS.iload X11.here hx rfl (hb hby own_d10_5) rfl kt_) ?_
 refine own_by (T' := T11) (g' := (mkF m 10 #[.val (.ref b), .val (.int 2), .val (.ref d), .val (.int 2), .val (.int 3), .val (.int 2), .val (.int c1)] [])) (fun _ kt_ => XS.icmpNo X11.here hx rfl (hb hby own_d10_7) rfl (XT.ii_ge_f (by decide)) kt_) ?_
 refine own_by (T' := T11) (g' := (mkF m 11 #[.val (.ref b), .val (.int 2), .val (.ref d), .val (.int 2), .val (.int 3), .val (.int 2), .val (.int c1)] [.ref b])) (fun _ kt_ => XS.aloadN X11.here hx rfl (hb hby own_d10_10) rfl rfl kt_) ?_
 refine own_by (T' := T11) (g' := (mkF m 12 #[.val (.ref b), .val (.int 2), .val (.ref d), .val (.int 2), .val (.int 3), .val (.int 2), .val (.int c1)] [.int 2, .ref b])) (fun _ kt_ => XS.iloadN X11.here hx rfl (hb hby own_d10_11) rfl kt_) ?_
 have f18 : Arv Z h11 b kC .char (3 : Int32) [.int c0, .int c1, .int c2] (.int 0) := (f10.keep K12 (ninS ne1 nin0))
 obtain ⟨cl17, Ar17, q17, S17, M17, H17, G17⟩ := id f18
 have hin17 : ¬ ((2 : Int32) < 0 ∨ cl17.slots.size ≤ ((2 : Int32)).toNatClampNeg) := inb_of S17 ⟨by decide, by decide⟩
 have hat17 : cl17.slots[((2 : Int32)).toNatClampNeg]? = some (.int c2) := H17.at hin17 rfl
 refine own_by (T' := T11) (g' := (mkF m 13 #[.val (.ref b), .val (.int 2), .val (.ref d), .val (.int 2), .val (.int 3), .val (.int 2), .val (.int c1)] [.int c2])) (fun _ kt_ => X11.caload hx (j := (2 : Int32)) (v := (.int c2)) (by rw [e11]; exact Ar17.1) (State.isArrayOf_alike hZ.alike Ar17.2.1) Ar17.2.2 hin17 hat17 (g := (mkF m 12 #[.val (.ref b), .val (.int 2), .val (.ref d), .val (.int 2), .val (.int 3), .val (.int 2), .val (.int c1)] [.int 2, .ref b])) rfl rfl (hb hby own_d10_12) _ kt_) ?_
 refine own_by (T' := T11) (g' := (mkF m 15 #[.val (.ref b), .val (.int 2), .val (.ref d), .val (.int 2), .val (.int 3), .val (.int 2), .val (.int c2)] [])) (fun _ kt_ => XS.istore X11.here hx rfl (hb hby own_d10_13) rfl (l' := #[.val (.ref b), .val (.int 2), .val (.ref d), .val (.int 2), .val (.int 3), .val (.int 2), .val (.int c2)]) rfl kt_) ?_
 refine own_by (T' := T11) (g' := (mkF m 17 #[.val (.ref b), .val (.int 2), .val (.ref d), .val (.int 2), .val (.int 3), .val (.int 2), .val (.int c2)] [.int c2])) (fun _ kt_ => XS.iload X11.here hx rfl (hb hby own_d10_15) rfl kt_) ?_
 refine own_by (T' := T11) (g' := (mkF m 20 #[.val (.ref b), .val (.int 2), .val (.ref d), .val (.int 2), .val (.int 3), .val (.int 2), .val (.int c2)] [.int 255, .int c2])) (fun _ kt_ => XS.sipush X11.here hx rfl (hb hby own_d10_17) kt_) ?_
 refine own_by (T' := T11) (g' := (mkF m 26 #[.val (.ref b), .val (.int 2), .val (.ref d), .val (.int 2), .val (.int 3), .val (.int 2), .val (.int c2)] [])) (fun _ kt_ => XS.icmpYes X11.here hx rfl (pc0 := 20) (pc' := 26) rfl (hb hby own_d10_20) rfl (XT.ii_le_t hp2) (by decide) (by decide) kt_) ?_
 refine own_by (T' := T11) (g' := (mkF m 27 #[.val (.ref b), .val (.int 2), .val (.ref d), .val (.int 2), .val (.int 3), .val (.int 2), .val (.int c2)] [.ref d])) (fun _ kt_ => XS.aloadN X11.here hx rfl (hb hby own_d10_26) rfl rfl kt_) ?_
 refine own_by (T' := T11) (g' := (mkF m 28 #[.val (.ref b), .val (.int 2), .val (.ref d), .val (.int 2), .val (.int 3), .val (.int 2), .val (.int c2)] [.int 2, .ref d])) (fun _ kt_ => XS.iloadN X11.here hx rfl (hb hby own_d10_27) rfl kt_) ?_
 refine own_by (T' := T11) (g' := (mkF m 30 #[.val (.ref b), .val (.int 2), .val (.ref d), .val (.int 2), .val (.int 3), .val (.int 2), .val (.int c2)] [.int c2, .int 2, .ref d])) (fun _ kt_ => XS.iload X11.here hx rfl (hb hby own_d10_28) rfl kt_) ?_
 refine own_by (T' := T11) (g' := (mkF m 31 #[.val (.ref b), .val (.int 2), .val (.ref d), .val (.int 2), .val (.int 3), .val (.int 2), .val (.int c2)] [(.int c2.toInt8.toInt32), .int 2, .ref d])) (fun _ kt_ => XS.i2b X11.here hx rfl (hb hby own_d10_30) rfl kt_) ?_
 obtain ⟨cl19, Ar19, q19, S19, M19, H19, G19⟩ := id f15
 have hin19 : ¬ ((2 : Int32) < 0 ∨ cl19.slots.size ≤ ((2 : Int32)).toNatClampNeg) := inb_of S19 ⟨by decide, by decide⟩
 obtain ⟨T19, h19, X19, e19, W19, st19⟩ := stB X11 hx hZ e11 Ar19 (j := (2 : Int32)) hin19 (g := (mkF m 31 #[.val (.ref b), .val (.int 2), .val (.ref d), .val (.int 2), .val (.int 3), .val (.int 2), .val (.int c2)] [(.int c2.toInt8.toInt32), .int 2, .ref d])) rfl rfl (hb hby own_d10_31)
 rw [show nar .byte c2.toInt8.toInt32 = c2.toInt8.toInt32 from own_narB _] at W19
 have K20 : Keep h11 h19 [d] := Keep.of_wr W19
 have zzK20 : h11.size ≤ h19.size := K20.1
 have oo21 : Old Z n0 h19 := oo13.keep K20 (allS (by omega : n0 ≤ d) all0)
 have kt22 : Keep h0 h19 [d] := kt14.trans K20 (allS (Or.inl (List.mem_of_getElem? (i := 0) rfl)) all0)
 have f23 : Arv Z h19 d kB .byte (3 : Int32) [(.int c0.toInt8.toInt32), (.int c1.toInt8.toInt32), (.int c2.toInt8.toInt32)] (.int 0) := Arv.set Ar19 q19 S19 M19 H19 G19 (fits_nar_byte _) W19 2 rfl (Nat.le_of_ble_eq_true rfl)
 have N24 := Fr.snoc X19 N16 (by omega : n0 ≤ d)
 refine own_by (T' := T19) (g' := (mkF m 32 #[.val (.ref b), .val (.int 2), .val (.ref d), .val (.int 2), .val (.int 3), .val (.int 2), .val (.int c2)] [])) st19 ?_
 refine own_by (T' := T19) (g' := (mkF m 35 #[.val (.ref b), .val (.int ((2 : Int32) + (1 : Int32))), .val (.ref d), .val (.int 2), .val (.int 3), .val (.int 2), .val (.int c2)] [])) (fun _ kt_ => XS.iinc X19.here hx rfl (hb hby own_d10_32) rfl (l' := #[.val (.ref b), .val (.int ((2 : Int32) + (1 : Int32))), .val (.ref d), .val (.int 2), .val (.int 3), .val (.int 2), .val (.int c2)]) rfl kt_) ?_
 rw [show ((2 : Int32) + (1 : Int32)) = (3 : Int32) from by decide]
 refine own_by (T' := T19) (g' := (mkF m 38 #[.val (.ref b), .val (.int 3), .val (.ref d), .val (.int ((2 : Int32) + (1 : Int32))), .val (.int 3), .val (.int 2), .val (.int c2)] [])) (fun _ kt_ => XS.iinc X19.here hx rfl (hb hby own_d10_35) rfl (l' := #[.val (.ref b), .val (.int 3), .val (.ref d), .val (.int ((2 : Int32) + (1 : Int32))), .val (.int 3), .val (.int 2), .val (.int c2)]) rfl kt_) ?_
 rw [show ((2 : Int32) + (1 : Int32)) = (3 : Int32) from by decide]
 refine own_by (T' := T19) (g' := (mkF m 41 #[.val (.ref b), .val (.int 3), .val (.ref d), .val (.int 3), .val (.int 3), .val (.int ((2 : Int32) + (1 : Int32))), .val (.int c2)] [])) (fun _ kt_ => XS.iinc X19.here hx rfl (hb hby own_d10_38) rfl (l' := #[.val (.ref b), .val (.int 3), .val (.ref d), .val (.int 3), .val (.int 3), .val (.int ((2 : Int32) + (1 : Int32))), .val (.int c2)]) rfl kt_) ?_
 rw [show ((2 : Int32) + (1 : Int32)) = (3 : Int32) from by decide]
 refine own_by (T' := T19) (g' := (mkF m 3 #[.val (.ref b), .val (.int 3), .val (.ref d), .val (.int 3), .val (.int 3), .val (.int 3), .val (.int c2)] [])) (fun _ kt_ => XS.goto X19.here hx rfl (pc0 := 41) (pc' := 3) rfl (hb hby own_d10_41) (by decide) (by decide) kt_) ?_
 refine own_by (T' := T19) (g' := (mkF m 5 #[.val (.ref b), .val (.int 3), .val (.ref d), .val (.int 3), .val (.int 3), .val (.int 3), .val (.int c2)] [.int 3])) (fun _ kt_ => XS.iload X19.here hx rfl (hb hby own_d10_3) rfl kt_) ?_
 refine own_by (T' := T19) (g' := (mkF m 7 #[.val (.ref b), .val (.int 3), .val (.ref d), .val (.int 3), .val (.int 3), .val (.int 3), .val (.int c2)] [.int 3, .int 3])) (fun _ kt_ => XS.iload X19.here hx rfl (hb hby own_d10_5) rfl kt_) ?_
 refine own_by (T' := T19) (g' := (mkF m 44 #[.val (.ref b), .val (.int 3), .val (.ref d), .val (.int 3), .val (.int 3), .val (.int 3), .val (.int c2)] [])) (fun _ kt_ => XS.icmpYes X19.here hx rfl (pc0 := 7) (pc' := 44) rfl (hb hby own_d10_7) rfl (XT.ii_ge_t (by decide)) (by decide) (by decide) kt_) ?_
 refine own_by (T' := T19) (g' := (mkF m 46 #[.val (.ref b), .val (.int 3), .val (.ref d), .val (.int 3), .val (.int 3), .val (.int 3), .val (.int c2)] [.int 3])) (fun _ kt_ => XS.iload X19.here hx rfl (hb hby own_d10_44) rfl kt_) ?_
 obtain ⟨fs25, hr25, hrun25, hended25, hW25, hsame25⟩ := X19.leave (v := some (.int 3)) (fun h => by rw [Bd.returns] at h; cases h)
 refine ⟨_, _, retOut X19 hx (t := .int) Bd.returns rfl (Or.inl ⟨rfl, Or.inl rfl, _, rfl⟩) (hb hby own_d10_46) hr25, hrun25, hended25, _, _, rfl, ?_, ⟨_, rfl⟩, hW25, hsame25.mono (by decide) (by decide)⟩
 show Q_rmC5_3 Z zC vF hvF b d kC kB c0 c1 c2 h0 n0 _ T19.heap _
 rw [e19]
 exact ⟨rfl, N24, kt22, f23⟩
theorem own_ef_rmC3_3 (m : MethodId) (x0 : Addr) (x1 : Int32) (x2 : Int32) : entryFrame m #[.ref x0, .int x1, .int x2] 6 = mkF m 0 #[.val (.ref x0), .val (.int x1), .val (.int x2), .unset, .unset, .unset] [] := by first | (simp [entryFrame, mkF, argsToLocals, Value.category]; done) | rfl
def Q_rmC3_3 (Z : State) (zC : Int32) (vF : Value) (hvF : vF.isRef = true) (b : Addr) (kC : ClassId) (c0 : Int32) (c1 : Int32) (c2 : Int32) (h0 : Heap) (n0 : Nat) (vv_ : Option Value) (hh_ : Heap) (LL_ : List Loc) : Prop := ∃ d : Addr, ∃ kB : ClassId, vv_ = some (.ref d) ∧ Fr n0 LL_ ∧ Keep h0 hh_ [] ∧ h0.size ≤ d ∧ Arv Z hh_ d kB .byte (3 : Int32) [(.int c0.toInt8.toInt32), (.int c1.toInt8.toInt32), (.int c2.toInt8.toInt32)] (.int 0)
set_option maxRecDepth 65536 in
set_option maxHeartbeats 40000000 in
theorem rmC3_3 (l : Launch) (Z : State) (a0 : Array Value) (hw : ∀ d ∈ tables_1, d.before a0 Z = true) (ws : List Jvm.Cond) (zC : Int32) (vF : Value) (hvF : vF.isRef = true) (GS : Glob Z zC vF hvF) (b : Addr) (kC : ClassId) (c0 : Int32) (c1 : Int32) (c2 : Int32) (h0 : Heap) (n0 : Nat) (Z0 : n0 ≤ h0.size) (O0 : Old Z n0 h0) (Vb : Arv Z h0 b kC .char (3 : Int32) [.int c0, .int c1, .int c2] (.int 0)) (hp0 : ¬ (255 : Int32) < c0) (hp1 : ¬ (255 : Int32) < c1) (hp2 : ¬ (255 : Int32) < c2) :
  MetFree l (⟨"java/lang/StringUTF16", "compress", "([CII)[B"⟩ : MethodName) (head1 (Jvm.Cond.code (⟨"java/lang/StringUTF16", "compress", "([CII)[B"⟩ : MethodName) jdk_52_method_16_code 6 (some (.array .byte)) :: ws) (⟨1, 1, 3, 18⟩ : Room)) (fun aa_ UU_ => aa_ = #[.ref b, .int 0, .int 3] ∧ Z.Warmed39 UU_.vm ∧ UU_.heap = h0) (fun _ _ _ _ _ => True) (fun _ UU_ oo_ UV_ => ∃ vv_ LL_, oo_ = .returned vv_ ∧ Q_rmC3_3 Z zC vF hvF b kC c0 c1 c2 h0 n0 vv_ UV_.heap LL_ ∧ FrameEnd UU_ oo_ UV_ LL_ (⟨1, 1, 3, 18⟩ : Room).cells (⟨1, 1, 3, 18⟩ : Room).slots) := by
 refine MetFree.of_bodySF (plainFor_of_name own_pn_java_lang_StringUTF16) hisR ?_
 intro p e s m args below meth c s₁ Bd hml0 hP hK
 obtain ⟨rfl, hZ, hh⟩ := hP
 have hx := Bd.exec
 have hby := Bd.bytes
 have hml : c.maxLocals = 6 := hml0
 have hown : s.vm.findClass "java/lang/StringUTF16" = some m.cls := findClass_of_methodNamed Bd.named
 have hnm := (name_of_methodNamed Bd.named Bd.method).1
 have X0 : Stand p l e (⟨1, 1, 3, 18⟩ : Room) s m #[.ref b, .int 0, .int 3] below meth c s₁ [] 0 0 := Stand.of_body Bd
 have e0 : s₁.heap = h0 := by rw [← hh, Bd.state]; rfl
 have N0 := Fr.nil n0
 have hn0 : Z.heap.size = n0 := O0.1
 have KT0 : Keep h0 h0 [] := Keep.refl _ _
 refine own_enter (Φ := fun oo_ UV_ => ∃ vv_ LL_, oo_ = .returned vv_ ∧ Q_rmC3_3 Z zC vF hvF b kC c0 c1 c2 h0 n0 vv_ UV_.heap LL_ ∧ FrameEnd s oo_ UV_ LL_ (⟨1, 1, 3, 18⟩ : Room).cells (⟨1, 1, 3, 18⟩ : Room).slots) (own_ef_rmC3_3 m b (0 : Int32) (3 : Int32)) ?_
 refine own_by (T' := s₁) (g' := (mkF m 1 #[.val (.ref b), .val (.int 0), .val (.int 3), .unset, .unset, .unset] [.int 3])) (fun _ kt_ => XS.iloadN X0.here hx rfl (hb hby own_d9_0) rfl kt_) ?_
 obtain ⟨T1, h1, k1, X1, e1, E1, A1, st1⟩ := newP X0 hx hZ (ww hw 22 rfl) e0 (g := (mkF m 1 #[.val (.ref b), .val (.int 0), .val (.int 3), .unset, .unset, .unset] [.int 3])) rfl (hb hby own_d9_1) rfl (by decide) (cap := 3) (by decide) (by decide) (by decide) (by decide)
 obtain ⟨b1, g1⟩ : ∃ z, z = h0.size := ⟨_, rfl⟩
 rw [← g1] at A1 st1
 have K2 : Keep h0 h1 [] := own_kext E1
 have zzK2 : h0.size ≤ h1.size := K2.1
 have oo3 : Old Z n0 h1 := O0.keep K2 all0
 have kt4 : Keep h0 h1 [] := KT0.trans K2 all0
 have lab1 : b1 < h1.size := A1.lt
 have f5 : Arv Z h1 b1 k1 .byte (3 : Int32) [.int 0, .int 0, .int 0] (.int 0) := (Arv.new A1 (by decide)).pad (pad_rep [] (.int 0) 3)
 refine own_by (T' := T1) (g' := (mkF m 3 #[.val (.ref b), .val (.int 0), .val (.int 3), .unset, .unset, .unset] [.ref b1])) st1 ?_
 refine own_by (T' := T1) (g' := (mkF m 4 #[.val (.ref b), .val (.int 0), .val (.int 3), .val (.ref b1), .unset, .unset] [])) (fun _ kt_ => XS.astoreN X1.here hx rfl (hb hby own_d9_3) rfl rfl (l' := #[.val (.ref b), .val (.int 0), .val (.int 3), .val (.ref b1), .unset, .unset]) rfl kt_) ?_
 refine own_by (T' := T1) (g' := (mkF m 5 #[.val (.ref b), .val (.int 0), .val (.int 3), .val (.ref b1), .unset, .unset] [.ref b])) (fun _ kt_ => XS.aloadN X1.here hx rfl (hb hby own_d9_4) rfl rfl kt_) ?_
 refine own_by (T' := T1) (g' := (mkF m 6 #[.val (.ref b), .val (.int 0), .val (.int 3), .val (.ref b1), .unset, .unset] [.int 0, .ref b])) (fun _ kt_ => XS.iloadN X1.here hx rfl (hb hby own_d9_5) rfl kt_) ?_
 refine own_by (T' := T1) (g' := (mkF m 7 #[.val (.ref b), .val (.int 0), .val (.int 3), .val (.ref b1), .unset, .unset] [.ref b1, .int 0, .ref b])) (fun _ kt_ => XS.aloadN X1.here hx rfl (hb hby own_d9_6) rfl rfl kt_) ?_
 refine own_by (T' := T1) (g' := (mkF m 8 #[.val (.ref b), .val (.int 0), .val (.int 3), .val (.ref b1), .unset, .unset] [.int 0, .ref b1, .int 0, .ref b])) (fun _ kt_ => XS.iconst X1.here hx rfl (hb hby own_d9_7) kt_) ?_
 refine own_by (T' := T1) (g' := (mkF m 9 #[.val (.ref b), .val (.int 0), .val (.int 3), .val (.ref b1), .unset, .unset] [.int 3, .int 0, .ref b1, .int 0, .ref b])) (fun _ kt_ => XS.iloadN X1.here hx rfl (hb hby own_d9_8) rfl kt_) ?_
 have f6 : Arv Z h1 b kC .char (3 : Int32) [.int c0, .int c1, .int c2] (.int 0) := (Vb.keep K2 nin0)
 have la7 : @LT.lt Nat instLTNat b h0.size := Vb.lt
 have ne8 : @Ne Nat b b1 := by omega
 obtain ⟨_, _, ⟨T9, L9, k9, n9⟩, -, X9, ⟨Lc9, hQ9, l9, y9, z9⟩, st9⟩ := Jvm.LawKit.callS X1 hx (y := (⟨"java/lang/StringUTF16", "compress", "([CI[BII)I"⟩ : MethodName)) hown (mvT hZ (ww hw 48 rfl)) (mvT hZ (ww hw 49 rfl)) (mvT hZ (ww hw 46 rfl)) (mvT hZ (ww hw 50 rfl)) (by decide) (backOf (W := 0) (rmC5_3 l Z a0 hw [] zC vF hvF GS b b1 kC k1 c0 c1 c2 h1 n0 (by omega) oo3 f6 f5 (by omega) ne8 hp0 hp1 hp2) hZ (ww hw 50 rfl) (ww hw 46 rfl) (by decide) (by decide)) (g := (mkF m 9 #[.val (.ref b), .val (.int 0), .val (.int 3), .val (.ref b1), .unset, .unset] [.int 3, .int 0, .ref b1, .int 0, .ref b])) rfl (by rw [hml]; rfl) (argsL := [.ref b, .int 0, .ref b1, .int 0, .int 3]) (rest := []) (lenOf own_pd_0 rfl) rfl (by show 2 * 0 + _ ≤ _; exact Nat.le_of_eq rfl) (hb hby own_d9_9) (fun _ _ => ⟨rfl, e1, (by decide : 1 + 0 ≤ _), (by decide : 3 + 0 ≤ _)⟩)
 dsimp only [Pt.U, Pt.locs, Pt.cells, Pt.slots] at X9 l9 y9 z9 st9 hQ9
 subst l9 y9 z9
 obtain ⟨rfl, N9q, K9, p9_0⟩ := hQ9
 have N10 := Fr.app N0 N9q
 have zzK9 : h1.size ≤ T9.heap.size := K9.1
 have oo11 : Old Z n0 T9.heap := oo3.keep K9 (allS (by omega : n0 ≤ b1) all0)
 have kt12 : Keep h0 T9.heap [] := kt4.trans K9 (allS (Or.inr (by omega : h0.size ≤ b1)) all0)
 refine own_by (T' := T9) (g' := (mkF m 12 #[.val (.ref b), .val (.int 0), .val (.int 3), .val (.ref b1), .unset, .unset] [.int 3])) st9 ?_
 refine own_by (T' := T9) (g' := (mkF m 14 #[.val (.ref b), .val (.int 0), .val (.int 3), .val (.ref b1), .val (.int 3), .unset] [])) (fun _ kt_ => XS.istore X9.here hx rfl (hb hby own_d9_12) rfl (l' := #[.val (.ref b), .val (.int 0), .val (.int 3), .val (.ref b1), .val (.int 3), .unset]) rfl kt_) ?_
 refine own_by (T' := T9) (g' := (mkF m 16 #[.val (.ref b), .val (.int 0), .val (.int 3), .val (.ref b1), .val (.int 3), .unset] [.int 3])) (fun _ kt_ => XS.iload X9.here hx rfl (hb hby own_d9_14) rfl kt_) ?_
 refine own_by (T' := T9) (g' := (mkF m 17 #[.val (.ref b), .val (.int 0), .val (.int 3), .val (.ref b1), .val (.int 3), .unset] [.int 3, .int 3])) (fun _ kt_ => XS.iloadN X9.here hx rfl (hb hby own_d9_16) rfl kt_) ?_
 refine own_by (T' := T9) (g' := (mkF m 57 #[.val (.ref b), .val (.int 0), .val (.int 3), .val (.ref b1), .val (.int 3), .unset] [])) (fun _ kt_ => XS.icmpYes X9.here hx rfl (pc0 := 17) (pc' := 57) rfl (hb hby own_d9_17) rfl (XT.ii_eq_t (by decide)) (by decide) (by decide) kt_) ?_
 refine own_by (T' := T9) (g' := (mkF m 58 #[.val (.ref b), .val (.int 0), .val (.int 3), .val (.ref b1), .val (.int 3), .unset] [.ref b1])) (fun _ kt_ => XS.aloadN X9.here hx rfl (hb hby own_d9_57) rfl rfl kt_) ?_
 obtain ⟨fs13, hr13, hrun13, hended13, hW13, hsame13⟩ := X9.leave (v := some (.ref b1)) (fun h => by rw [Bd.returns] at h; cases h)
 refine ⟨_, _, retOut X9 hx (t := (.array .byte)) Bd.returns rfl (Or.inr (Or.inr (Or.inr (Or.inr ⟨rfl, rfl, rfl⟩)))) (hb hby own_d9_58) hr13, hrun13, hended13, _, _, rfl, ?_, ⟨_, rfl⟩, hW13, hsame13.mono (by decide) (by decide)⟩
 show Q_rmC3_3 Z zC vF hvF b kC c0 c1 c2 h0 n0 _ T9.heap _
 exact ⟨b1, k1, rfl, N10, kt12, (by omega), p9_0⟩
theorem own_ef_rmCod_3 (m : MethodId) (x0 : Addr) (x1 : Int32) : entryFrame m #[.ref x0, .int x1] 2 = mkF m 0 #[.val (.ref x0), .val (.int x1)] [] := by first | (simp [entryFrame, mkF, argsToLocals, Value.category]; done) | rfl
def Q_rmCod_3 (Z : State) (zC : Int32) (vF : Value) (hvF : vF.isRef = true) (d : Addr) (kB : ClassId) (b0 : Int32) (b1 : Int32) (b2 : Int32) (h0 : Heap) (n0 : Nat) (vv_ : Option Value) (hh_ : Heap) (LL_ : List Loc) : Prop := vv_ = some (.int 0) ∧ Fr n0 LL_ ∧ hh_ = h0
set_option maxRecDepth 65536 in
set_option maxHeartbeats 40000000 in
theorem rmCod_3 (l : Launch) (Z : State) (a0 : Array Value) (hw : ∀ d ∈ tables_1, d.before a0 Z = true) (ws : List Jvm.Cond) (zC : Int32) (vF : Value) (hvF : vF.isRef = true) (GS : Glob Z zC vF hvF) (d : Addr) (kB : ClassId) (b0 : Int32) (b1 : Int32) (b2 : Int32) (h0 : Heap) (n0 : Nat) (Z0 : n0 ≤ h0.size) (O0 : Old Z n0 h0) (Vd : Arv Z h0 d kB .byte (3 : Int32) [.int b0, .int b1, .int b2] (.int 0)) :
  MetFree l (⟨"java/lang/StringUTF16", "coderFromArrayLen", "([BI)B"⟩ : MethodName) (head1 (Jvm.Cond.code (⟨"java/lang/StringUTF16", "coderFromArrayLen", "([BI)B"⟩ : MethodName) jdk_52_method_15_code 2 (some .byte) :: ws) (⟨0, 0, 0, 0⟩ : Room)) (fun aa_ UU_ => aa_ = #[.ref d, .int 3] ∧ Z.Warmed39 UU_.vm ∧ UU_.heap = h0) (fun _ _ _ _ _ => True) (fun _ UU_ oo_ UV_ => ∃ vv_ LL_, oo_ = .returned vv_ ∧ Q_rmCod_3 Z zC vF hvF d kB b0 b1 b2 h0 n0 vv_ UV_.heap LL_ ∧ FrameEnd UU_ oo_ UV_ LL_ (⟨0, 0, 0, 0⟩ : Room).cells (⟨0, 0, 0, 0⟩ : Room).slots) := by
 refine MetFree.of_bodySF (plainFor_of_name own_pn_java_lang_StringUTF16) hisR ?_
 intro p e s m args below meth c s₁ Bd hml0 hP hK
 obtain ⟨rfl, hZ, hh⟩ := hP
 have hx := Bd.exec
 have hby := Bd.bytes
 have hml : c.maxLocals = 2 := hml0
 have hown : s.vm.findClass "java/lang/StringUTF16" = some m.cls := findClass_of_methodNamed Bd.named
 have hnm := (name_of_methodNamed Bd.named Bd.method).1
 have X0 : Stand p l e (⟨0, 0, 0, 0⟩ : Room) s m #[.ref d, .int 3] below meth c s₁ [] 0 0 := Stand.of_body Bd
 have e0 : s₁.heap = h0 := by rw [← hh, Bd.state]; rfl
 have N0 := Fr.nil n0
 have hn0 : Z.heap.size = n0 := O0.1
 have KT0 : Keep h0 h0 [] := Keep.refl _ _
 refine own_enter (Φ := fun oo_ UV_ => ∃ vv_ LL_, oo_ = .returned vv_ ∧ Q_rmCod_3 Z zC vF hvF d kB b0 b1 b2 h0 n0 vv_ UV_.heap LL_ ∧ FrameEnd s oo_ UV_ LL_ (⟨0, 0, 0, 0⟩ : Room).cells (⟨0, 0, 0, 0⟩ : Room).slots) (own_ef_rmCod_3 m d (3 : Int32)) ?_
 refine own_by (T' := s₁) (g' := (mkF m 1 #[.val (.ref d), .val (.int 3)] [.int 3])) (fun _ kt_ => XS.iloadN X0.here hx rfl (hb hby own_d11_0) rfl kt_) ?_
 refine own_by (T' := s₁) (g' := (mkF m 2 #[.val (.ref d), .val (.int 3)] [.ref d, .int 3])) (fun _ kt_ => XS.aloadN X0.here hx rfl (hb hby own_d11_1) rfl rfl kt_) ?_
 obtain ⟨cl1, Ar1, q1, S1, M1, H1, G1⟩ := id Vd
 refine own_by (T' := s₁) (g' := (mkF m 3 #[.val (.ref d), .val (.int 3)] [.int 3, .int 3])) (fun _ kt_ => X0.arraylength hx (by rw [e0]; exact Ar1.1) (State.isArrayOf_alike hZ.alike Ar1.2.1) (g := (mkF m 2 #[.val (.ref d), .val (.int 3)] [.ref d, .int 3])) rfl rfl (hb hby own_d11_2) _ (by rw [len_of S1 M1]; exact kt_)) ?_
 refine own_by (T' := s₁) (g' := (mkF m 4 #[.val (.ref d), .val (.int 3)] [(.int ((3 : Int32) - (3 : Int32)))])) (fun _ kt_ => XS.isub X0.here hx rfl (hb hby own_d11_3) rfl kt_) ?_
 rw [show ((3 : Int32) - (3 : Int32)) = (0 : Int32) from by decide]
 refine own_by (T' := s₁) (g' := (mkF m 6 #[.val (.ref d), .val (.int 3)] [.int 31, .int 0])) (fun _ kt_ => XS.bipush X0.here hx rfl (hb hby own_d11_4) kt_) ?_
 refine own_by (T' := s₁) (g' := (mkF m 7 #[.val (.ref d), .val (.int 3)] [(.int (((0 : Int32).toUInt32 >>> ((31 : Int32) &&& 31).toUInt32).toInt32))])) (fun _ kt_ => XS.iushr X0.here hx rfl (hb hby own_d11_6) rfl kt_) ?_
 refine own_by (T' := s₁) (g' := (mkF m 8 #[.val (.ref d), .val (.int 3)] [(.int (((0 : Int32).toUInt32 >>> ((31 : Int32) &&& 31).toUInt32).toInt32).toInt8.toInt32)])) (fun _ kt_ => XS.i2b X0.here hx rfl (hb hby own_d11_7) rfl kt_) ?_
 have hn2 : nar .byte ((((0 : Int32).toUInt32 >>> ((31 : Int32) &&& 31).toUInt32).toInt32).toInt8.toInt32) = (((0 : Int32).toUInt32 >>> ((31 : Int32) &&& 31).toUInt32).toInt32).toInt8.toInt32 := by decide
 have hr3 : (((0 : Int32).toUInt32 >>> ((31 : Int32) &&& 31).toUInt32).toInt32).toInt8.toInt32 = (0 : Int32) := by decide
 obtain ⟨fs4, hr4, hrun4, hended4, hW4, hsame4⟩ := X0.leave (v := some (.int (nar .byte ((((0 : Int32).toUInt32 >>> ((31 : Int32) &&& 31).toUInt32).toInt32).toInt8.toInt32)))) (fun h => by rw [Bd.returns] at h; cases h)
 refine ⟨_, _, retN X0 hx (t := .byte) Bd.returns (by simp) (hb hby own_d11_8) hr4, hrun4, hended4, _, _, rfl, ?_, ⟨_, rfl⟩, hW4, hsame4.mono (by decide) (by decide)⟩
 show Q_rmCod_3 Z zC vF hvF d kB b0 b1 b2 h0 n0 _ s₁.heap _
 exact ⟨(congrArg (fun z => some (Value.int z)) (hn2.trans hr3)), N0, e0⟩
theorem own_ef_rmS4_3 (m : MethodId) (x0 : Addr) (x1 : Addr) (x2 : Int32) (x3 : Int32) : entryFrame m #[.ref x0, .ref x1, .int x2, .int x3, .null] 6 = mkF m 0 #[.val (.ref x0), .val (.ref x1), .val (.int x2), .val (.int x3), .val .null, .unset] [] := by first | (simp [entryFrame, mkF, argsToLocals, Value.category]; done) | rfl
def Q_rmS4_3 (Z : State) (zC : Int32) (vF : Value) (hvF : vF.isRef = true) (x : Addr) (b : Addr) (kC : ClassId) (c0 : Int32) (c1 : Int32) (c2 : Int32) (h0 : Heap) (n0 : Nat) (vv_ : Option Value) (hh_ : Heap) (LL_ : List Loc) : Prop := ∃ t : Addr, ∃ kB : ClassId, vv_ = none ∧ Fr n0 LL_ ∧ Keep h0 hh_ [x] ∧ h0.size ≤ t ∧ Fld Z hh_ x "java/lang/String" "value" "[B" (.ref t) ∧ Fld Z hh_ x "java/lang/String" "coder" "B" (.int 0) ∧ Arv Z hh_ t kB .byte (3 : Int32) [(.int c0.toInt8.toInt32), (.int c1.toInt8.toInt32), (.int c2.toInt8.toInt32)] (.int 0)
set_option maxRecDepth 65536 in
set_option maxHeartbeats 40000000 in
theorem rmS4_3 (l : Launch) (Z : State) (a0 : Array Value) (hw : ∀ d ∈ tables_1, d.before a0 Z = true) (ws : List Jvm.Cond) (zC : Int32) (vF : Value) (hvF : vF.isRef = true) (GS : Glob Z zC vF hvF) (x : Addr) (b : Addr) (kC : ClassId) (c0 : Int32) (c1 : Int32) (c2 : Int32) (h0 : Heap) (n0 : Nat) (Z0 : n0 ≤ h0.size) (O0 : Old Z n0 h0) (E_x : Exa Z h0 x "java/lang/String") (g_x : n0 ≤ x) (Fv : Fld Z h0 x "java/lang/String" "value" "[B" .null) (Fc : Fld Z h0 x "java/lang/String" "coder" "B" (.int 0)) (Vb : Arv Z h0 b kC .char (3 : Int32) [.int c0, .int c1, .int c2] (.int 0)) (hbx : b ≠ x) (hp0 : ¬ (255 : Int32) < c0) (hp1 : ¬ (255 : Int32) < c1) (hp2 : ¬ (255 : Int32) < c2) :
  MetFree l (⟨"java/lang/String", "<init>", "([CIILjava/lang/Void;)V"⟩ : MethodName) (head1 (Jvm.Cond.code (⟨"java/lang/String", "<init>", "([CIILjava/lang/Void;)V"⟩ : MethodName) jdk_42_method_149_code 6 none :: ws) (⟨2, 1, 3, 35⟩ : Room)) (fun aa_ UU_ => aa_ = #[.ref x, .ref b, .int 0, .int 3, .null] ∧ Z.Warmed39 UU_.vm ∧ UU_.heap = h0) (fun _ _ _ _ _ => True) (fun _ UU_ oo_ UV_ => ∃ vv_ LL_, oo_ = .returned vv_ ∧ Q_rmS4_3 Z zC vF hvF x b kC c0 c1 c2 h0 n0 vv_ UV_.heap LL_ ∧ FrameEnd UU_ oo_ UV_ LL_ (⟨2, 1, 3, 35⟩ : Room).cells (⟨2, 1, 3, 35⟩ : Room).slots) := by
 refine MetFree.of_bodySF (plainFor_of_name own_pn_java_lang_String) hisR ?_
 intro p e s m args below meth c s₁ Bd hml0 hP hK
 obtain ⟨rfl, hZ, hh⟩ := hP
 have hx := Bd.exec
 have hby := Bd.bytes
 have hml : c.maxLocals = 6 := hml0
 have hown : s.vm.findClass "java/lang/String" = some m.cls := findClass_of_methodNamed Bd.named
 have hnm := (name_of_methodNamed Bd.named Bd.method).1
 have X0 : Stand p l e (⟨2, 1, 3, 35⟩ : Room) s m #[.ref x, .ref b, .int 0, .int 3, .null] below meth c s₁ [] 0 0 := Stand.of_body Bd
 have e0 : s₁.heap = h0 := by rw [← hh, Bd.state]; rfl
 have N0 := Fr.nil n0
 have hn0 : Z.heap.size = n0 := O0.1
 have KT0 : Keep h0 h0 [x] := Keep.refl _ _
 refine own_enter (Φ := fun oo_ UV_ => ∃ vv_ LL_, oo_ = .returned vv_ ∧ Q_rmS4_3 Z zC vF hvF x b kC c0 c1 c2 h0 n0 vv_ UV_.heap LL_ ∧ FrameEnd s oo_ UV_ LL_ (⟨2, 1, 3, 35⟩ : Room).cells (⟨2, 1, 3, 35⟩ : Room).slots) (own_ef_rmS4_3 m x b (0 : Int32) (3 : Int32)) ?_
 have ne1 : b ≠ x := hbx
 refine own_by (T' := s₁) (g' := (mkF m 1 #[.val (.ref x), .val (.ref b), .val (.int 0), .val (.int 3), .val .null, .unset] [.ref x])) (fun _ kt_ => XS.aloadN X0.here hx rfl (hb hby own_d4_0) rfl rfl kt_) ?_
 obtain ⟨T2, X2, e2, st2⟩ := initO X0 hx hZ hown (ww hw 18 rfl) (ww hw 19 rfl) (ww hw 20 rfl) e0 (g := (mkF m 1 #[.val (.ref x), .val (.ref b), .val (.int 0), .val (.int 3), .val .null, .unset] [.ref x])) rfl (by rw [hml]; rfl) rfl (hb hby own_d4_1) (by decide) (W := 0) (by show 2 * 0 + _ ≤ _; exact Nat.le_of_eq rfl) (by decide)
 refine own_by (T' := T2) (g' := (mkF m 4 #[.val (.ref x), .val (.ref b), .val (.int 0), .val (.int 3), .val .null, .unset] [])) st2 ?_
 refine own_by (T' := T2) (g' := (mkF m 5 #[.val (.ref x), .val (.ref b), .val (.int 0), .val (.int 3), .val .null, .unset] [.int 3])) (fun _ kt_ => XS.iloadN X2.here hx rfl (hb hby own_d4_4) rfl kt_) ?_
 refine own_by (T' := T2) (g' := (mkF m 27 #[.val (.ref x), .val (.ref b), .val (.int 0), .val (.int 3), .val .null, .unset] [])) (fun _ kt_ => XS.ifYes X2.here hx rfl (pc0 := 5) (pc' := 27) rfl (hb hby own_d4_5) rfl (XT.i0_ne_t (by decide)) (by decide) (by decide) kt_) ?_
 have f3 := GS.1.ext O0.2
 obtain ⟨T4, X4, e4, st4⟩ := getS2 X2 hx hZ hown (host := "") (Or.inl (ww hw 43 rfl)) Via.refl e2 f3 (g := (mkF m 27 #[.val (.ref x), .val (.ref b), .val (.int 0), .val (.int 3), .val .null, .unset] [])) rfl (hb hby own_d4_27)
 refine own_by (T' := T4) (g' := (mkF m 30 #[.val (.ref x), .val (.ref b), .val (.int 0), .val (.int 3), .val .null, .unset] [.int zC])) st4 ?_
 refine own_by (T' := T4) (g' := (mkF m 33 #[.val (.ref x), .val (.ref b), .val (.int 0), .val (.int 3), .val .null, .unset] [])) (fun _ kt_ => XS.ifNo X4.here hx rfl (hb hby own_d4_30) rfl (XT.i0_eq_f GS.2.1) kt_) ?_
 refine own_by (T' := T4) (g' := (mkF m 34 #[.val (.ref x), .val (.ref b), .val (.int 0), .val (.int 3), .val .null, .unset] [.ref b])) (fun _ kt_ => XS.aloadN X4.here hx rfl (hb hby own_d4_33) rfl rfl kt_) ?_
 refine own_by (T' := T4) (g' := (mkF m 35 #[.val (.ref x), .val (.ref b), .val (.int 0), .val (.int 3), .val .null, .unset] [.int 0, .ref b])) (fun _ kt_ => XS.iloadN X4.here hx rfl (hb hby own_d4_34) rfl kt_) ?_
 refine own_by (T' := T4) (g' := (mkF m 36 #[.val (.ref x), .val (.ref b), .val (.int 0), .val (.int 3), .val .null, .unset] [.int 3, .int 0, .ref b])) (fun _ kt_ => XS.iloadN X4.here hx rfl (hb hby own_d4_35) rfl kt_) ?_
 obtain ⟨_, _, ⟨T5, L5, k5, n5⟩, -, X5, ⟨Lc5, hQ5, l5, y5, z5⟩, st5⟩ := Jvm.LawKit.callS X4 hx (y := (⟨"java/lang/StringUTF16", "compress", "([CII)[B"⟩ : MethodName)) hown (mvT hZ (ww hw 44 rfl)) (mvT hZ (ww hw 45 rfl)) (mvT hZ (ww hw 46 rfl)) (mvT hZ (ww hw 47 rfl)) (by decide) (backOf (W := 0) (rmC3_3 l Z a0 hw [] zC vF hvF GS b kC c0 c1 c2 h0 n0 (by omega) O0 Vb hp0 hp1 hp2) hZ (ww hw 47 rfl) (ww hw 46 rfl) (by decide) (by decide)) (g := (mkF m 36 #[.val (.ref x), .val (.ref b), .val (.int 0), .val (.int 3), .val .null, .unset] [.int 3, .int 0, .ref b])) rfl (by rw [hml]; rfl) (argsL := [.ref b, .int 0, .int 3]) (rest := []) (lenOf own_pd_1 rfl) rfl (by show 2 * 0 + _ ≤ _; exact Nat.le_of_eq rfl) (hb hby own_d4_36) (fun _ _ => ⟨rfl, e4, (by decide : 0 + 1 ≤ _), (by decide : 0 + 3 ≤ _)⟩)
 dsimp only [Pt.U, Pt.locs, Pt.cells, Pt.slots] at X5 l5 y5 z5 st5 hQ5
 subst l5 y5 z5
 obtain ⟨d_6, kB_7, rfl, N5q, K5, p5_0, p5_1⟩ := hQ5
 have N8 := Fr.app N0 N5q
 have gd_6 : h0.size ≤ d_6 := p5_0
 have zzK5 : h0.size ≤ T5.heap.size := K5.1
 have oo9 : Old Z n0 T5.heap := O0.keep K5 all0
 have kt10 : Keep h0 T5.heap [x] := KT0.trans K5 all0
 refine own_by (T' := T5) (g' := (mkF m 39 #[.val (.ref x), .val (.ref b), .val (.int 0), .val (.int 3), .val .null, .unset] [.ref d_6])) st5 ?_
 refine own_by (T' := T5) (g' := (mkF m 41 #[.val (.ref x), .val (.ref b), .val (.int 0), .val (.int 3), .val .null, .val (.ref d_6)] [])) (fun _ kt_ => XS.astore X5.here hx rfl (hb hby own_d4_39) rfl rfl (l' := #[.val (.ref x), .val (.ref b), .val (.int 0), .val (.int 3), .val .null, .val (.ref d_6)]) rfl kt_) ?_
 refine own_by (T' := T5) (g' := (mkF m 42 #[.val (.ref x), .val (.ref b), .val (.int 0), .val (.int 3), .val .null, .val (.ref d_6)] [.ref x])) (fun _ kt_ => XS.aloadN X5.here hx rfl (hb hby own_d4_41) rfl rfl kt_) ?_
 refine own_by (T' := T5) (g' := (mkF m 44 #[.val (.ref x), .val (.ref b), .val (.int 0), .val (.int 3), .val .null, .val (.ref d_6)] [.ref d_6, .ref x])) (fun _ kt_ => XS.aload X5.here hx rfl (hb hby own_d4_42) rfl rfl kt_) ?_
 refine own_by (T' := T5) (g' := (mkF m 45 #[.val (.ref x), .val (.ref b), .val (.int 0), .val (.int 3), .val .null, .val (.ref d_6)] [.int 3, .ref d_6, .ref x])) (fun _ kt_ => XS.iloadN X5.here hx rfl (hb hby own_d4_44) rfl kt_) ?_
 obtain ⟨_, _, ⟨T11, L11, k11, n11⟩, -, X11, ⟨Lc11, hQ11, l11, y11, z11⟩, st11⟩ := Jvm.LawKit.callS X5 hx (y := (⟨"java/lang/StringUTF16", "coderFromArrayLen", "([BI)B"⟩ : MethodName)) hown (mvT hZ (ww hw 51 rfl)) (mvT hZ (ww hw 52 rfl)) (mvT hZ (ww hw 46 rfl)) (mvT hZ (ww hw 53 rfl)) (by decide) (backOf (W := 1) (rmCod_3 l Z a0 hw [] zC vF hvF GS d_6 kB_7 c0.toInt8.toInt32 c1.toInt8.toInt32 c2.toInt8.toInt32 T5.heap n0 (by omega) oo9 p5_1) hZ (ww hw 53 rfl) (ww hw 46 rfl) (by decide) (by decide)) (g := (mkF m 45 #[.val (.ref x), .val (.ref b), .val (.int 0), .val (.int 3), .val .null, .val (.ref d_6)] [.int 3, .ref d_6, .ref x])) rfl (by rw [hml]; rfl) (argsL := [.ref d_6, .int 3]) (rest := [.ref x]) (lenOf own_pd_2 rfl) rfl (by show 2 * 0 + _ ≤ _; exact Nat.le_of_eq rfl) (hb hby own_d4_45) (fun _ _ => ⟨rfl, rfl, (by decide : 1 + 0 ≤ _), (by decide : 3 + 0 ≤ _)⟩)
 dsimp only [Pt.U, Pt.locs, Pt.cells, Pt.slots] at X11 l11 y11 z11 st11 hQ11
 subst l11 y11 z11
 obtain ⟨rfl, N11q, e11⟩ := hQ11
 have N12 := Fr.app N8 N11q
 refine own_by (T' := T11) (g' := (mkF m 48 #[.val (.ref x), .val (.ref b), .val (.int 0), .val (.int 3), .val .null, .val (.ref d_6)] [.int 0, .ref x])) st11 ?_
 have f13 : Exa Z T5.heap x "java/lang/String" := (E_x.keep K5)
 have f14 : Fld Z T5.heap x "java/lang/String" "coder" "B" (.int 0) := (Fc.keep K5 nin0)
 obtain ⟨T15, h15, X15, e15, W15, st15⟩ := putFN X11 hx hZ hown (ww hw 28 rfl) Via.refl e11 f14 f13 (Or.inr ⟨(ww hw 24 rfl), rfl, hnm⟩) (ww hw 8 rfl) (ty := .byte) (v' := (.int (0 : Int32).toInt8.toInt32)) (by decide) rfl (fits_nar_byte _) (g := (mkF m 48 #[.val (.ref x), .val (.ref b), .val (.int 0), .val (.int 3), .val .null, .val (.ref d_6)] [.int 0, .ref x])) rfl rfl (hb hby own_d4_48)
 have K16 : Keep T5.heap h15 [x] := Keep.of_wr W15
 have f17 : Fld Z T5.heap x "java/lang/String" "value" "[B" .null := (Fv.keep K5 nin0)
 have zzK16 : T5.heap.size ≤ h15.size := K16.1
 have oo18 : Old Z n0 h15 := oo9.keep K16 (allS (by omega : n0 ≤ x) all0)
 have kt19 : Keep h0 h15 [x] := kt10.trans K16 (allS (Or.inl (List.mem_of_getElem? (i := 0) rfl)) all0)
 have f20 : Fld Z h15 x "java/lang/String" "value" "[B" .null := f17.other W15 (Or.inr (slot_ne (Or.inr (ww hw 23 rfl)) (Or.inr (ww hw 24 rfl)) (by decide) (t := (.array .byte)) (t' := .byte) (by decide) (by decide)))
 have f21 : Fld Z h15 x "java/lang/String" "coder" "B" (.int (0 : Int32).toInt8.toInt32) := f14.same W15
 have N22 := Fr.snoc X15 N12 (by omega : n0 ≤ x)
 refine own_by (T' := T15) (g' := (mkF m 51 #[.val (.ref x), .val (.ref b), .val (.int 0), .val (.int 3), .val .null, .val (.ref d_6)] [])) st15 ?_
 refine own_by (T' := T15) (g' := (mkF m 52 #[.val (.ref x), .val (.ref b), .val (.int 0), .val (.int 3), .val .null, .val (.ref d_6)] [.ref x])) (fun _ kt_ => XS.aloadN X15.here hx rfl (hb hby own_d4_51) rfl rfl kt_) ?_
 refine own_by (T' := T15) (g' := (mkF m 54 #[.val (.ref x), .val (.ref b), .val (.int 0), .val (.int 3), .val .null, .val (.ref d_6)] [.ref d_6, .ref x])) (fun _ kt_ => XS.aload X15.here hx rfl (hb hby own_d4_52) rfl rfl kt_) ?_
 have f23 : Exa Z h15 x "java/lang/String" := (f13.keep K16)
 obtain ⟨T24, h24, X24, e24, W24, st24⟩ := putF X15 hx hZ hown (host := "") (Or.inl (ww hw 27 rfl)) Via.refl e15 f20 f23 (Or.inr ⟨(ww hw 23 rfl), rfl, hnm⟩) (ww hw 8 rfl) (ty := (.array .byte)) (by decide) rfl rfl (g := (mkF m 54 #[.val (.ref x), .val (.ref b), .val (.int 0), .val (.int 3), .val .null, .val (.ref d_6)] [.ref d_6, .ref x])) rfl rfl (hb hby own_d4_54)
 have K25 : Keep h15 h24 [x] := Keep.of_wr W24
 have zzK25 : h15.size ≤ h24.size := K25.1
 have oo26 : Old Z n0 h24 := oo18.keep K25 (allS (by omega : n0 ≤ x) all0)
 have kt27 : Keep h0 h24 [x] := kt19.trans K25 (allS (Or.inl (List.mem_of_getElem? (i := 0) rfl)) all0)
 have f28 : Fld Z h24 x "java/lang/String" "value" "[B" (.ref d_6) := f20.same W24
 have f29 : Fld Z h24 x "java/lang/String" "coder" "B" (.int (0 : Int32).toInt8.toInt32) := f21.other W24 (Or.inr (slot_ne (Or.inr (ww hw 24 rfl)) (Or.inr (ww hw 23 rfl)) (by decide) (t := .byte) (t' := (.array .byte)) (by decide) (by decide)))
 have N30 := Fr.snoc X24 N22 (by omega : n0 ≤ x)
 refine own_by (T' := T24) (g' := (mkF m 57 #[.val (.ref x), .val (.ref b), .val (.int 0), .val (.int 3), .val .null, .val (.ref d_6)] [])) st24 ?_
 have la31 : @LT.lt Nat instLTNat d_6 T5.heap.size := p5_1.lt
 have hv32 : ((.int (0 : Int32).toInt8.toInt32) : Value) = (.int 0) := rfl
 have la33 : @LT.lt Nat instLTNat x h0.size := E_x.lt
 have ne34 : @Ne Nat d_6 x := by omega
 have f35 : Arv Z h24 d_6 kB_7 .byte (3 : Int32) [(.int c0.toInt8.toInt32), (.int c1.toInt8.toInt32), (.int c2.toInt8.toInt32)] (.int 0) := ((p5_1.keep K16 (ninS ne34 nin0)).keep K25 (ninS ne34 nin0))
 obtain ⟨fs36, hr36, hrun36, hended36, hW36, hsame36⟩ := X24.leave (v := none) (fun _ => rfl)
 refine ⟨_, _, X24.returnOut hx Bd.returns (hb hby own_d4_57) hr36, hrun36, hended36, _, _, rfl, ?_, ⟨_, rfl⟩, hW36, hsame36.mono (by decide) (by decide)⟩
 show Q_rmS4_3 Z zC vF hvF x b kC c0 c1 c2 h0 n0 _ T24.heap _
 rw [e24]
 exact ⟨d_6, kB_7, rfl, N30, kt27, (by omega), f28, (hv32 ▸ f29), f35⟩
theorem own_ef_rmS1_3 (m : MethodId) (x0 : Addr) (x1 : Addr) : entryFrame m #[.ref x0, .ref x1] 2 = mkF m 0 #[.val (.ref x0), .val (.ref x1)] [] := by first | (simp [entryFrame, mkF, argsToLocals, Value.category]; done) | rfl
def Q_rmS1_3 (Z : State) (zC : Int32) (vF : Value) (hvF : vF.isRef = true) (x : Addr) (b : Addr) (kC : ClassId) (c0 : Int32) (c1 : Int32) (c2 : Int32) (h0 : Heap) (n0 : Nat) (vv_ : Option Value) (hh_ : Heap) (LL_ : List Loc) : Prop := ∃ t : Addr, ∃ kB : ClassId, vv_ = none ∧ Fr n0 LL_ ∧ Keep h0 hh_ [x] ∧ h0.size ≤ t ∧ Fld Z hh_ x "java/lang/String" "value" "[B" (.ref t) ∧ Fld Z hh_ x "java/lang/String" "coder" "B" (.int 0) ∧ Arv Z hh_ t kB .byte (3 : Int32) [(.int c0.toInt8.toInt32), (.int c1.toInt8.toInt32), (.int c2.toInt8.toInt32)] (.int 0)
set_option maxRecDepth 65536 in
set_option maxHeartbeats 40000000 in
theorem rmS1_3 (l : Launch) (Z : State) (a0 : Array Value) (hw : ∀ d ∈ tables_1, d.before a0 Z = true) (ws : List Jvm.Cond) (zC : Int32) (vF : Value) (hvF : vF.isRef = true) (GS : Glob Z zC vF hvF) (x : Addr) (b : Addr) (kC : ClassId) (c0 : Int32) (c1 : Int32) (c2 : Int32) (h0 : Heap) (n0 : Nat) (Z0 : n0 ≤ h0.size) (O0 : Old Z n0 h0) (E_x : Exa Z h0 x "java/lang/String") (g_x : n0 ≤ x) (Fv : Fld Z h0 x "java/lang/String" "value" "[B" .null) (Fc : Fld Z h0 x "java/lang/String" "coder" "B" (.int 0)) (Vb : Arv Z h0 b kC .char (3 : Int32) [.int c0, .int c1, .int c2] (.int 0)) (hbx : b ≠ x) (hp0 : ¬ (255 : Int32) < c0) (hp1 : ¬ (255 : Int32) < c1) (hp2 : ¬ (255 : Int32) < c2) :
  MetFree l (⟨"java/lang/String", "<init>", "([C)V"⟩ : MethodName) (head1 (Jvm.Cond.code (⟨"java/lang/String", "<init>", "([C)V"⟩ : MethodName) jdk_42_method_3_code 2 none :: ws) (⟨3, 1, 3, 52⟩ : Room)) (fun aa_ UU_ => aa_ = #[.ref x, .ref b] ∧ Z.Warmed39 UU_.vm ∧ UU_.heap = h0) (fun _ _ _ _ _ => True) (fun _ UU_ oo_ UV_ => ∃ vv_ LL_, oo_ = .returned vv_ ∧ Q_rmS1_3 Z zC vF hvF x b kC c0 c1 c2 h0 n0 vv_ UV_.heap LL_ ∧ FrameEnd UU_ oo_ UV_ LL_ (⟨3, 1, 3, 52⟩ : Room).cells (⟨3, 1, 3, 52⟩ : Room).slots) := by
 refine MetFree.of_bodySF (plainFor_of_name own_pn_java_lang_String) hisR ?_
 intro p e s m args below meth c s₁ Bd hml0 hP hK
 obtain ⟨rfl, hZ, hh⟩ := hP
 have hx := Bd.exec
 have hby := Bd.bytes
 have hml : c.maxLocals = 2 := hml0
 have hown : s.vm.findClass "java/lang/String" = some m.cls := findClass_of_methodNamed Bd.named
 have hnm := (name_of_methodNamed Bd.named Bd.method).1
 have X0 : Stand p l e (⟨3, 1, 3, 52⟩ : Room) s m #[.ref x, .ref b] below meth c s₁ [] 0 0 := Stand.of_body Bd
 have e0 : s₁.heap = h0 := by rw [← hh, Bd.state]; rfl
 have N0 := Fr.nil n0
 have hn0 : Z.heap.size = n0 := O0.1
 have KT0 : Keep h0 h0 [x] := Keep.refl _ _
 refine own_enter (Φ := fun oo_ UV_ => ∃ vv_ LL_, oo_ = .returned vv_ ∧ Q_rmS1_3 Z zC vF hvF x b kC c0 c1 c2 h0 n0 vv_ UV_.heap LL_ ∧ FrameEnd s oo_ UV_ LL_ (⟨3, 1, 3, 52⟩ : Room).cells (⟨3, 1, 3, 52⟩ : Room).slots) (own_ef_rmS1_3 m x b) ?_
 have ne1 : b ≠ x := hbx
 refine own_by (T' := s₁) (g' := (mkF m 1 #[.val (.ref x), .val (.ref b)] [.ref x])) (fun _ kt_ => XS.aloadN X0.here hx rfl (hb hby own_d3_0) rfl rfl kt_) ?_
 refine own_by (T' := s₁) (g' := (mkF m 2 #[.val (.ref x), .val (.ref b)] [.ref b, .ref x])) (fun _ kt_ => XS.aloadN X0.here hx rfl (hb hby own_d3_1) rfl rfl kt_) ?_
 refine own_by (T' := s₁) (g' := (mkF m 3 #[.val (.ref x), .val (.ref b)] [.int 0, .ref b, .ref x])) (fun _ kt_ => XS.iconst X0.here hx rfl (hb hby own_d3_2) kt_) ?_
 refine own_by (T' := s₁) (g' := (mkF m 4 #[.val (.ref x), .val (.ref b)] [.ref b, .int 0, .ref b, .ref x])) (fun _ kt_ => XS.aloadN X0.here hx rfl (hb hby own_d3_3) rfl rfl kt_) ?_
 obtain ⟨cl2, Ar2, q2, S2, M2, H2, G2⟩ := id Vb
 refine own_by (T' := s₁) (g' := (mkF m 5 #[.val (.ref x), .val (.ref b)] [.int 3, .int 0, .ref b, .ref x])) (fun _ kt_ => X0.arraylength hx (by rw [e0]; exact Ar2.1) (State.isArrayOf_alike hZ.alike Ar2.2.1) (g := (mkF m 4 #[.val (.ref x), .val (.ref b)] [.ref b, .int 0, .ref b, .ref x])) rfl rfl (hb hby own_d3_4) _ (by rw [len_of S2 M2]; exact kt_)) ?_
 refine own_by (T' := s₁) (g' := (mkF m 6 #[.val (.ref x), .val (.ref b)] [.null, .int 3, .int 0, .ref b, .ref x])) (fun _ kt_ => XS.aconstNull X0.here hx rfl (hb hby own_d3_5) kt_) ?_
 have la3 : @LT.lt Nat instLTNat x h0.size := E_x.lt
 obtain ⟨_, _, ⟨T4, L4, k4, n4⟩, -, X4, ⟨Lc4, hQ4, l4, y4, z4⟩, st4⟩ := X0.specialBack hx (y := (⟨"java/lang/String", "<init>", "([CIILjava/lang/Void;)V"⟩ : MethodName)) rfl hown (mvT hZ (ww hw 14 rfl)) (mvT hZ (ww hw 15 rfl)) (mvT hZ (ww hw 17 rfl)) (by decide) (backOf (W := 0) (rmS4_3 l Z a0 hw [] zC vF hvF GS x b kC c0 c1 c2 h0 n0 (by omega) O0 E_x (by omega) Fv Fc Vb hbx hp0 hp1 hp2) hZ (ww hw 17 rfl) (ww hw 9 rfl) (by decide) (by decide)) (g := (mkF m 6 #[.val (.ref x), .val (.ref b)] [.null, .int 3, .int 0, .ref b, .ref x])) rfl (by rw [hml]; rfl) (Steps.refl _) (a := x) (argsL := [.ref b, .int 0, .int 3, .null]) (rest := []) (lenOf own_pd_3 rfl) rfl (by show 2 * 0 + _ ≤ _; exact Nat.le_of_eq rfl) (hb hby own_d3_6) (fun _ _ => ⟨rfl, e0, (by decide : 0 + 1 ≤ _), (by decide : 0 + 3 ≤ _)⟩)
 dsimp only [Pt.U, Pt.locs, Pt.cells, Pt.slots] at X4 l4 y4 z4 st4 hQ4
 subst l4 y4 z4
 obtain ⟨t_5, kB_6, rfl, N4q, K4, p4_0, p4_1, p4_2, p4_3⟩ := hQ4
 have N7 := Fr.app N0 N4q
 have gt_5 : h0.size ≤ t_5 := p4_0
 have zzK4 : h0.size ≤ T4.heap.size := K4.1
 have oo8 : Old Z n0 T4.heap := O0.keep K4 (allS (by omega : n0 ≤ x) all0)
 have kt9 : Keep h0 T4.heap [x] := KT0.trans K4 (allS (Or.inl (List.mem_of_getElem? (i := 0) rfl)) all0)
 refine own_by (T' := T4) (g' := (mkF m 9 #[.val (.ref x), .val (.ref b)] [])) (fun _ kt_ => st4.trans kt_) ?_
 have la10 : @LT.lt Nat instLTNat t_5 T4.heap.size := p4_3.lt
 obtain ⟨fs11, hr11, hrun11, hended11, hW11, hsame11⟩ := X4.leave (v := none) (fun _ => rfl)
 refine ⟨_, _, X4.returnOut hx Bd.returns (hb hby own_d3_9) hr11, hrun11, hended11, _, _, rfl, ?_, ⟨_, rfl⟩, hW11, hsame11.mono (by decide) (by decide)⟩
 show Q_rmS1_3 Z zC vF hvF x b kC c0 c1 c2 h0 n0 _ T4.heap _
 exact ⟨t_5, kB_6, rfl, N7, kt9, (by omega), p4_1, p4_2, p4_3⟩
theorem own_ef_rmC5_4 (m : MethodId) (x0 : Addr) (x1 : Int32) (x2 : Addr) (x3 : Int32) (x4 : Int32) : entryFrame m #[.ref x0, .int x1, .ref x2, .int x3, .int x4] 7 = mkF m 0 #[.val (.ref x0), .val (.int x1), .val (.ref x2), .val (.int x3), .val (.int x4), .unset, .unset] [] := by first | (simp [entryFrame, mkF, argsToLocals, Value.category]; done) | rfl
def Q_rmC5_4 (Z : State) (zC : Int32) (vF : Value) (hvF : vF.isRef = true) (b : Addr) (d : Addr) (kC : ClassId) (kB : ClassId) (c0 : Int32) (c1 : Int32) (c2 : Int32) (c3 : Int32) (h0 : Heap) (n0 : Nat) (vv_ : Option Value) (hh_ : Heap) (LL_ : List Loc) : Prop := vv_ = some (.int 4) ∧ Fr n0 LL_ ∧ Keep h0 hh_ [d] ∧ Arv Z hh_ d kB .byte (4 : Int32) [(.int c0.toInt8.toInt32), (.int c1.toInt8.toInt32), (.int c2.toInt8.toInt32), (.int c3.toInt8.toInt32)] (.int 0)
set_option maxRecDepth 65536 in
set_option maxHeartbeats 40000000 in
theorem rmC5_4 (l : Launch) (Z : State) (a0 : Array Value) (hw : ∀ d ∈ tables_1, d.before a0 Z = true) (ws : List Jvm.Cond) (zC : Int32) (vF : Value) (hvF : vF.isRef = true) (GS : Glob Z zC vF hvF) (b : Addr) (d : Addr) (kC : ClassId) (kB : ClassId) (c0 : Int32) (c1 : Int32) (c2 : Int32) (c3 : Int32) (h0 : Heap) (n0 : Nat) (Z0 : n0 ≤ h0.size) (O0 : Old Z n0 h0) (Vb : Arv Z h0 b kC .char (4 : Int32) [.int c0, .int c1, .int c2, .int c3] (.int 0)) (Vd : Arv Z h0 d kB .byte (4 : Int32) [.int 0, .int 0, .int 0, .int 0] (.int 0)) (gd : n0 ≤ d) (hbd : b ≠ d) (hp0 : ¬ (255 : Int32) < c0) (hp1 : ¬ (255 : Int32) < c1) (hp2 : ¬ (255 : Int32) < c2) (hp3 : ¬ (255 : Int32) < c3) :
  MetFree l (⟨"java/lang/StringUTF16", "compress", "([CI[BII)I"⟩ : MethodName) (head1 (Jvm.Cond.code (⟨"java/lang/StringUTF16", "compress", "([CI[BII)I"⟩ : MethodName) jdk_52_method_21_code 7 (some .int) :: ws) (⟨0, 0, 0, 0⟩ : Room)) (fun aa_ UU_ => aa_ = #[.ref b, .int 0, .ref d, .int 0, .int 4] ∧ Z.Warmed39 UU_.vm ∧ UU_.heap = h0) (fun _ _ _ _ _ => True) (fun _ UU_ oo_ UV_ => ∃ vv_ LL_, oo_ = .returned vv_ ∧ Q_rmC5_4 Z zC vF hvF b d kC kB c0 c1 c2 c3 h0 n0 vv_ UV_.heap LL_ ∧ FrameEnd UU_ oo_ UV_ LL_ (⟨0, 0, 0, 0⟩ : Room).cells (⟨0, 0, 0, 0⟩ : Room).slots) := by
 refine MetFree.of_bodySF (plainFor_of_name own_pn_java_lang_StringUTF16) hisR ?_
 intro p e s m args below meth c s₁ Bd hml0 hP hK
 obtain ⟨rfl, hZ, hh⟩ := hP
 have hx := Bd.exec
 have hby := Bd.bytes
 have hml : c.maxLocals = 7 := hml0
 have hown : s.vm.findClass "java/lang/StringUTF16" = some m.cls := findClass_of_methodNamed Bd.named
 have hnm := (name_of_methodNamed Bd.named Bd.method).1
 have X0 : Stand p l e (⟨0, 0, 0, 0⟩ : Room) s m #[.ref b, .int 0, .ref d, .int 0, .int 4] below meth c s₁ [] 0 0 := Stand.of_body Bd
 have e0 : s₁.heap = h0 := by rw [← hh, Bd.state]; rfl
 have N0 := Fr.nil n0
 have hn0 : Z.heap.size = n0 := O0.1
 have KT0 : Keep h0 h0 [d] := Keep.refl _ _
 refine own_enter (Φ := fun oo_ UV_ => ∃ vv_ LL_, oo_ = .returned vv_ ∧ Q_rmC5_4 Z zC vF hvF b d kC kB c0 c1 c2 c3 h0 n0 vv_ UV_.heap LL_ ∧ FrameEnd s oo_ UV_ LL_ (⟨0, 0, 0, 0⟩ : Room).cells (⟨0, 0, 0, 0⟩ : Room).slots) (own_ef_rmC5_4 m b (0 : Int32) d (0 : Int32) (4 : Int32)) ?_
 have ne1 : b ≠ d := hbd
 refine own_by (T' := s₁) (g' := (mkF m 1 #[.val (.ref b), .val (.int 0), .val (.ref d), .val (.int 0), .val (.int 4), .unset, .unset] [.int 0])) (fun _ kt_ => XS.iconst X0.here hx rfl (hb hby own_d10_0) kt_) ?_
 refine own_by (T' := s₁) (g' := (mkF m 3 #[.val (.ref b), .val (.int 0), .val (.ref d), .val (.int 0), .val (.int 4), .val (.int 0), .unset] [])) (fun _ kt_ => XS.istore X0.here hx rfl (hb hby own_d10_1) rfl (l' := #[.val (.ref b), .val (.int 0), .val (.ref d), .val (.int 0), .val (.int 4), .val (.int 0), .unset]) rfl kt_) ?_
 refine own_by (T' := s₁) (g' := (mkF m 5 #[.val (.ref b), .val (.int 0), .val (.ref d), .val (.int 0), .val (.int 4), .val (.int 0), .unset] [.int 0])) (fun _ kt_ => XS.iload X0.here hx rfl (hb hby own_d10_3) rfl kt_) ?_
 refine own_by (T' := s₁) (g' := (mkF m 7 #[.val (.ref b), .val (.int 0), .val (.ref d), .val (.int 0), .val (.int 4), .val (.int 0), .unset] [.int 4, .int 0])) (fun _ kt_ => XS.iload X0.here hx rfl (hb hby own_d10_5) rfl kt_) ?_
 refine own_by (T' := s₁) (g' := (mkF m 10 #[.val (.ref b), .val (.int 0), .val (.ref d), .val (.int 0), .val (.int 4), .val (.int 0), .unset] [])) (fun _ kt_ => XS.icmpNo X0.here hx rfl (hb hby own_d10_7) rfl (XT.ii_ge_f (by decide)) kt_) ?_
 refine own_by (T' := s₁) (g' := (mkF m 11 #[.val (.ref b), .val (.int 0), .val (.ref d), .val (.int 0), .val (.int 4), .val (.int 0), .unset] [.ref b])) (fun _ kt_ => XS.aloadN X0.here hx rfl (hb hby own_d10_10) rfl rfl kt_) ?_
 refine own_by (T' := s₁) (g' := (mkF m 12 #[.val (.ref b), .val (.int 0), .val (.ref d), .val (.int 0), .val (.int 4), .val (.int 0), .unset] [.int 0, .ref b])) (fun _ kt_ => XS.iloadN X0.here hx rfl (hb hby own_d10_11) rfl kt_) ?_
 obtain ⟨cl2, Ar2, q2, S2, M2, H2, G2⟩ := id Vb
 have hin2 : ¬ ((0 : Int32) < 0 ∨ cl2.slots.size ≤ ((0 : Int32)).toNatClampNeg) := inb_of S2 ⟨by decide, by decide⟩
 have hat2 : cl2.slots[((0 : Int32)).toNatClampNeg]? = some (.int c0) := H2.at hin2 rfl
 refine own_by (T' := s₁) (g' := (mkF m 13 #[.val (.ref b), .val (.int 0), .val (.ref d), .val (.int 0), .val (.int 4), .val (.int 0), .unset] [.int c0])) (fun _ kt_ => X0.caload hx (j := (0 : Int32)) (v := (.int c0)) (by rw [e0]; exact Ar2.1) (State.isArrayOf_alike hZ.alike Ar2.2.1) Ar2.2.2 hin2 hat2 (g := (mkF m 12 #[.val (.ref b), .val (.int 0), .val (.ref d), .val (.int 0), .val (.int 4), .val (.int 0), .unset] [.int 0, .ref b])) rfl rfl (hb hby own_d10_12) _ kt_) ?_
 refine own_by (T' := s₁) (g' := (mkF m 15 #[.val (.ref b), .val (.int 0), .val (.ref d), .val (.int 0), .val (.int 4), .val (.int 0), .val (.int c0)] [])) (fun _ kt_ => XS.istore X0.here hx rfl (hb hby own_d10_13) rfl (l' := #[.val (.ref b), .val (.int 0), .val (.ref d), .val (.int 0), .val (.int 4), .val (.int 0), .val (.int c0)]) rfl kt_) ?_
 refine own_by (T' := s₁) (g' := (mkF m 17 #[.val (.ref b), .val (.int 0), .val (.ref d), .val (.int 0), .val (.int 4), .val (.int 0), .val (.int c0)] [.int c0])) (fun _ kt_ => XS.iload X0.here hx rfl (hb hby own_d10_15) rfl kt_) ?_
 refine own_by (T' := s₁) (g' := (mkF m 20 #[.val (.ref b), .val (.int 0), .val (.ref d), .val (.int 0), .val (.int 4), .val (.int 0), .val (.int c0)] [.int 255, .int c0])) (fun _ kt_ => XS.sipush X0.here hx rfl (hb hby own_d10_17) kt_) ?_
 refine own_by (T' := s₁) (g' := (mkF m 26 #[.val (.ref b), .val (.int 0), .val (.ref d), .val (.int 0), .val (.int 4), .val (.int 0), .val (.int c0)] [])) (fun _ kt_ => XS.icmpYes X0.here hx rfl (pc0 := 20) (pc' := 26) rfl (hb hby own_d10_20) rfl (XT.ii_le_t hp0) (by decide) (by decide) kt_) ?_
 refine own_by (T' := s₁) (g' := (mkF m 27 #[.val (.ref b), .val (.int 0), .val (.ref d), .val (.int 0), .val (.int 4), .val (.int 0), .val (.int c0)] [.ref d])) (fun _ kt_ => XS.aloadN X0.here hx rfl (hb hby own_d10_26) rfl rfl kt_) ?_
 refine own_by (T' := s₁) (g' := (mkF m 28 #[.val (.ref b), .val (.int 0), .val (.ref d), .val (.int 0), .val (.int 4), .val (.int 0), .val (.int c0)] [.int 0, .ref d])) (fun _ kt_ => XS.iloadN X0.here hx rfl (hb hby own_d10_27) rfl kt_) ?_
 refine own_by (T' := s₁) (g' := (mkF m 30 #[.val (.ref b), .val (.int 0), .val (.ref d), .val (.int 0), .val (.int 4), .val (.int 0), .val (.int c0)] [.int c0, .int 0, .ref d])) (fun _ kt_ => XS.iload X0.here hx rfl (hb hby own_d10_28) rfl kt_) ?_
 refine own_by (T' := s₁) (g' := (mkF m 31 #[.val (.ref b), .val (.int 0), .val (.ref d), .val (.int 0), .val (.int 4), .val (.int 0), .val (.int c0)] [(.int c0.toInt8.toInt32), .int 0, .ref d])) (fun _ kt_ => XS.i2b X0.here hx rfl (hb hby own_d10_30) rfl kt_) ?_
 obtain ⟨cl3, Ar3, q3, S3, M3, H3, G3⟩ := id Vd
 have hin3 : ¬ ((0 : Int32) < 0 ∨ cl3.slots.size ≤ ((0 : Int32)).toNatClampNeg) := inb_of S3 ⟨by decide, by decide⟩
 obtain ⟨T3, h3, X3, e3, W3, st3⟩ := stB X0 hx hZ e0 Ar3 (j := (0 : Int32)) hin3 (g := (mkF m 31 #[.val (.ref b), .val (.int 0), .val (.ref d), .val (.int 0), .val (.int 4), .val (.int 0), .val (.int c0)] [(.int c0.toInt8.toInt32), .int 0, .ref d])) rfl rfl (hb hby own_d10_31)
 rw [show nar .byte c0.toInt8.toInt32 = c0.toInt8.toInt32 from own_narB _] at W3
 have K4 : Keep h0 h3 [d] := Keep.of_wr W3
 have zzK4 : h0.size ≤ h3.size := K4.1
 have oo5 : Old Z n0 h3 := O0.keep K4 (allS (by omega : n0 ≤ d) all0)
 have kt6 : Keep h0 h3 [d] := KT0.trans K4 (allS (Or.inl (List.mem_of_getElem? (i := 0) rfl)) all0)
 have f7 : Arv Z h3 d kB .byte (4 : Int32) [(.int c0.toInt8.toInt32), .int 0, .int 0, .int 0] (.int 0) := Arv.set Ar3 q3 S3 M3 H3 G3 (fits_nar_byte _) W3 0 rfl (Nat.le_of_ble_eq_true rfl)
 have N8 := Fr.snoc X3 N0 (by omega : n0 ≤ d)
 refine own_by (T' := T3) (g' := (mkF m 32 #[.val (.ref b), .val (.int 0), .val (.ref d), .val (.int 0), .val (.int 4), .val (.int 0), .val (.int c0)] [])) st3 ?_
 refine own_by (T' := T3) (g' := (mkF m 35 #[.val (.ref b), .val (.int ((0 : Int32) + (1 : Int32))), .val (.ref d), .val (.int 0), .val (.int 4), .val (.int 0), .val (.int c0)] [])) (fun _ kt_ => XS.iinc X3.here hx rfl (hb hby own_d10_32) rfl (l' := #[.val (.ref b), .val (.int ((0 : Int32) + (1 : Int32))), .val (.ref d), .val (.int 0), .val (.int 4), .val (.int 0), .val (.int c0)]) rfl kt_) ?_
 rw [show ((0 : Int32) + (1 : Int32)) = (1 : Int32) from by decide]
 refine own_by (T' := T3) (g' := (mkF m 38 #[.val (.ref b), .val (.int 1), .val (.ref d), .val (.int ((0 : Int32) + (1 : Int32))), .val (.int 4), .val (.int 0), .val (.int c0)] [])) (fun _ kt_ => XS.iinc X3.here hx rfl (hb hby own_d10_35) rfl (l' := #[.val (.ref b), .val (.int 1), .val (.ref d), .val (.int ((0 : Int32) + (1 : Int32))), .val (.int 4), .val (.int 0), .val (.int c0)]) rfl kt_) ?_
 rw [show ((0 : Int32) + (1 : Int32)) = (1 : Int32) from by decide]
 refine own_by (T' := T3) (g' := (mkF m 41 #[.val (.ref b), .val (.int 1), .val (.ref d), .val (.int 1), .val (.int 4), .val (.int ((0 : Int32) + (1 : Int32))), .val (.int c0)] [])) (fun _ kt_ => XS.iinc X3.here hx rfl (hb hby own_d10_38) rfl (l' := #[.val (.ref b), .val (.int 1), .val (.ref d), .val (.int 1), .val (.int 4), .val (.int ((0 : Int32) + (1 : Int32))), .val (.int c0)]) rfl kt_) ?_
 rw [show ((0 : Int32) + (1 : Int32)) = (1 : Int32) from by decide]
 refine own_by (T' := T3) (g' := (mkF m 3 #[.val (.ref b), .val (.int 1), .val (.ref d), .val (.int 1), .val (.int 4), .val (.int 1), .val (.int c0)] [])) (fun _ kt_ => XS.goto X3.here hx rfl (pc0 := 41) (pc' := 3) rfl (hb hby own_d10_41) (by decide) (by decide) kt_) ?_
 refine own_by (T' := T3) (g' := (mkF m 5 #[.val (.ref b), .val (.int 1), .val (.ref d), .val (.int 1), .val (.int 4), .val (.int 1), .val (.int c0)] [.int 1])) (fun _ kt_ => XS.iload X3.here hx rfl (hb hby own_d10_3) rfl kt_) ?_
 refine own_by (T' := T3) (g' := (mkF m 7 #[.val (.ref b), .val (.int 1), .val (.ref d), .val (.int 1), .val (.int 4), .val (.int 1), .val (.int c0)] [.int 4, .int 1])) (fun _ kt_ => XS.iload X3.here hx rfl (hb hby own_d10_5) rfl kt_) ?_
 refine own_by (T' := T3) (g' := (mkF m 10 #[.val (.ref b), .val (.int 1), .val (.ref d), .val (.int 1), .val (.int 4), .val (.int 1), .val (.int c0)] [])) (fun _ kt_ => XS.icmpNo X3.here hx rfl (hb hby own_d10_7) rfl (XT.ii_ge_f (by decide)) kt_) ?_
 refine own_by (T' := T3) (g' := (mkF m 11 #[.val (.ref b), .val (.int 1), .val (.ref d), .val (.int 1), .val (.int 4), .val (.int 1), .val (.int c0)] [.ref b])) (fun _ kt_ => XS.aloadN X3.here hx rfl (hb hby own_d10_10) rfl rfl kt_) ?_
 refine own_by (T' := T3) (g' := (mkF m 12 #[.val (.ref b), .val (.int 1), .val (.ref d), .val (.int 1), .val (.int 4), .val (.int 1), .val (.int c0)] [.int 1, .ref b])) (fun _ kt_ => XS.iloadN X3.here hx rfl (hb hby own_d10_11) rfl kt_) ?_
 have f10 : Arv Z h3 b kC .char (4 : Int32) [.int c0, .int c1, .int c2, .int c3] (.int 0) := (Vb.keep K4 (ninS ne1 nin0))
 obtain ⟨cl9, Ar9, q9, S9, M9, H9, G9⟩ := id f10
 have hin9 : ¬ ((1 : Int32) < 0 ∨ cl9.slots.size ≤ ((1 : Int32)).toNatClampNeg) := inb_of S9 ⟨by decide, by decide⟩
 have hat9 : cl9.slots[((1 : Int32)).toNatClampNeg]? = some (.int c1) := H9.at hin9 rfl
 refine own_by (T' := T3) (g' := (mkF m 13 #[.val (.ref b), .val (.int 1), .val (.ref d), .val (.int 1), .val (.int 4), .val (.int 1), .val (.int c0)] [.int c1])) (fun _ kt_ => X3.caload hx (j := (1 : Int32)) (v := (.int c1)) (by rw [e3]; exact Ar9.1) (State.isArrayOf_alike hZ.alike Ar9.2.1) Ar9.2.2 hin9 hat9 (g := (mkF m 12 #[.val (.ref b), .val (.int 1), .val (.ref d), .val (.int 1), .val (.int 4), .val (.int 1), .val (.int c0)] [.int 1, .ref b])) rfl rfl (hb hby own_d10_12) _ kt_) ?_
 refine own_by (T' := T3) (g' := (mkF m 15 #[.val (.ref b), .val (.int 1), .val (.ref d), .val (.int 1), .val (.int 4), .val (.int 1), .val (.int c1)] [])) (fun _ kt_ => XS.istore X3.here hx rfl (hb hby own_d10_13) rfl (l' := #[.val (.ref b), .val (.int 1), .val (.ref d), .val (.int 1), .val (.int 4), .val (.int 1), .val (.int c1)]) rfl kt_) ?_
 refine own_by (T' := T3) (g' := (mkF m 17 #[.val (.ref b), .val (.int 1), .val (.ref d), .val (.int 1), .val (.int 4), .val (.int 1), .val (.int c1)] [.int c1])) (fun _ kt_ => XS.iload X3.here hx rfl (hb hby own_d10_15) rfl kt_) ?_
 refine own_by (T' := T3) (g' := (mkF m 20 #[.val (.ref b), .val (.int 1), .val (.ref d), .val (.int 1), .val (.int 4), .val (.int 1), .val (.int c1)] [.int 255, .int c1])) (fun _ kt_ => XS.sipush X3.here hx rfl (hb hby own_d10_17) kt_) ?_
 refine own_by (T' := T3) (g' := (mkF m 26 #[.val (.ref b), .val (.int 1), .val (.ref d), .val (.int 1), .val (.int 4), .val (.int 1), .val (.int c1)] [])) (fun _ kt_ => XS.icmpYes X3.here hx rfl (pc0 := 20) (pc' := 26) rfl (hb hby own_d10_20) rfl (XT.ii_le_t hp1) (by decide) (by decide) kt_) ?_
 refine own_by (T' := T3) (g' := (mkF m 27 #[.val (.ref b), .val (.int 1), .val (.ref d), .val (.int 1), .val (.int 4), .val (.int 1), .val (.int c1)] [.ref d])) (fun _ kt_ => XS.aloadN X3.here hx rfl (hb hby own_d10_26) rfl rfl kt_) ?_
 refine own_by (T' := T3) (g' := (mkF m 28 #[.val (.ref b), .val (.int 1), .val (.ref d), .val (.int 1), .val (.int 4), .val (.int 1), .val (.int c1)] [.int 1, .ref d])) (fun _ kt_ => XS.iloadN X3.here hx rfl (hb hby own_d10_27) rfl kt_) ?_
 refine own_by (T' := T3) (g' := (mkF m 30 #[.val (.ref b), .val (.int 1), .val (.ref d), .val (.int 1), .val (.int 4), .val (.int 1), .val (.int c1)] [.int c1, .int 1, .ref d])) (fun _ kt_ => XS.iload X3.here hx rfl (hb hby own_d10_28) rfl kt_) ?_
 refine own_by (T' := T3) (g' := (mkF m 31 #[.val (.ref b), .val (.int 1), .val (.ref d), .val (.int 1), .val (.int 4), .val (.int 1), .val (.int c1)] [(.int c1.toInt8.toInt32), .int 1, .ref d])) (fun _ kt_ => XS.i2b X3.here hx rfl (hb hby own_d10_30) rfl kt_) ?_
 obtain ⟨cl11, Ar11, q11, S11, M11, H11, G11⟩ := id f7
 have hin11 : ¬ ((1 : Int32) < 0 ∨ cl11.slots.size ≤ ((1 : Int32)).toNatClampNeg) := inb_of S11 ⟨by decide, by decide⟩
 obtain ⟨T11, h11, X11, e11, W11, st11⟩ := stB X3 hx hZ e3 Ar11 (j := (1 : Int32)) hin11 (g := (mkF m 31 #[.val (.ref b), .val (.int 1), .val (.ref d), .val (.int 1), .val (.int 4), .val (.int 1), .val (.int c1)] [(.int c1.toInt8.toInt32), .int 1, .ref d])) rfl rfl (hb hby own_d10_31)
 rw [show nar .byte c1.toInt8.toInt32 = c1.toInt8.toInt32 from own_narB _] at W11
 have K12 : Keep h3 h11 [d] := Keep.of_wr W11
 have zzK12 : h3.size ≤ h11.size := K12.1
 have oo13 : Old Z n0 h11 := oo5.keep K12 (allS (by omega : n0 ≤ d) all0)
 have kt14 : Keep h0 h11 [d] := kt6.trans K12 (allS (Or.inl (List.mem_of_getElem? (i := 0) rfl)) all0)
 have f15 : Arv Z h11 d kB .byte (4 : Int32) [(.int c0.toInt8.toInt32), (.int c1.toInt8.toInt32), .int 0, .int 0] (.int 0) := Arv.set Ar11 q11 S11 M11 H11 G11 (fits_nar_byte _) W11 1 rfl (Nat.le_of_ble_eq_true rfl)
 have N16 := Fr.snoc X11 N8 (by omega : n0 ≤ d)
 refine own_by (T' := T11) (g' := (mkF m 32 #[.val (.ref b), .val (.int 1), .val (.ref d), .val (.int 1), .val (.int 4), .val (.int 1), .val (.int c1)] [])) st11 ?_
 refine own_by (T' := T11) (g' := (mkF m 35 #[.val (.ref b), .val (.int ((1 : Int32) + (1 : Int32))), .val (.ref d), .val (.int 1), .val (.int 4), .val (.int 1), .val (.int c1)] [])) (fun _ kt_ => XS.iinc X11.here hx rfl (hb hby own_d10_32) rfl (l' := #[.val (.ref b), .val (.int ((1 : Int32) + (1 : Int32))), .val (.ref d), .val (.int 1), .val (.int 4), .val (.int 1), .val (.int c1)]) rfl kt_) ?_
 rw [show ((1 : Int32) + (1 : Int32)) = (2 : Int32) from by decide]
 refine own_by (T' := T11) (g' := (mkF m 38 #[.val (.ref b), .val (.int 2), .val (.ref d), .val (.int ((1 : Int32) + (1 : Int32))), .val (.int 4), .val (.int 1), .val (.int c1)] [])) (fun _ kt_ => XS.iinc X11.here hx rfl (hb hby own_d10_35) rfl (l' := #[.val (.ref b), .val (.int 2), .val (.ref d), .val (.int ((1 : Int32) + (1 : Int32))), .val (.int 4), .val (.int 1), .val (.int c1)]) rfl kt_) ?_
 rw [show ((1 : Int32) + (1 : Int32)) = (2 : Int32) from by decide]
 refine own_by (T' := T11) (g' := (mkF m 41 #[.val (.ref b), .val (.int 2), .val (.ref d), .val (.int 2), .val (.int 4), .val (.int ((1 : Int32) + (1 : Int32))), .val (.int c1)] [])) (fun _ kt_ => XS.iinc X11.here hx rfl (hb hby own_d10_38) rfl (l' := #[.val (.ref b), .val (.int 2), .val (.ref d), .val (.int 2), .val (.int 4), .val (.int ((1 : Int32) + (1 : Int32))), .val (.int c1)]) rfl kt_) ?_
 rw [show ((1 : Int32) + (1 : Int32)) = (2 : Int32) from by decide]
 refine own_by (T' := T11) (g' := (mkF m 3 #[.val (.ref b), .val (.int 2), .val (.ref d), .val (.int 2), .val (.int 4), .val (.int 2), .val (.int c1)] [])) (fun _ kt_ => XS.goto X11.here hx rfl (pc0 := 41) (pc' := 3) rfl (hb hby own_d10_41) (by decide) (by decide) kt_) ?_
 refine own_by (T' := T11) (g' := (mkF m 5 #[.val (.ref b), .val (.int 2), .val (.ref d), .val (.int 2), .val (.int 4), .val (.int 2), .val (.int c1)] [.int 2])) (fun _ kt_ => XS.iload X11.here hx rfl (hb hby own_d10_3) rfl kt_) ?_
 refine own_by (T' := T11) (g' := (mkF m 7 #[.val (.ref b), .val (.int 2), .val (.ref d), .val (.int 2), .val (.int 4), .val (.int 2), .val (.int c1)] [.int 4, .int 2])) (fun _ kt_ => XS.iload X11.here hx rfl (hb hby own_d10_5) rfl kt_) ?_
 refine own_by (T' := T11) (g' := (mkF m 10 #[.val (.ref b), .val (.int 2), .val (.ref d), .val (.int 2), .val (.int 4), .val (.int 2), .val (.int c1)] [])) (fun _ kt_ => XS.icmpNo X11.here hx rfl (hb hby own_d10_7) rfl (XT.ii_ge_f (by decide)) kt_) ?_
 refine own_by (T' := T11) (g' := (mkF m 11 #[.val (.ref b), .val (.int 2), .val (.ref d), .val (.int 2), .val (.int 4), .val (.int 2), .val (.int c1)] [.ref b])) (fun _ kt_ => XS.aloadN X11.here hx rfl (hb hby own_d10_10) rfl rfl kt_) ?_
 refine own_by (T' := T11) (g' := (mkF m 12 #[.val (.ref b), .val (.int 2), .val (.ref d), .val (.int 2), .val (.int 4), .val (.int 2), .val (.int c1)] [.int 2, .ref b])) (fun _ kt_ => XS.iloadN X11.here hx rfl (hb hby own_d10_11) rfl kt_) ?_
 have f18 : Arv Z h11 b kC .char (4 : Int32) [.int c0, .int c1, .int c2, .int c3] (.int 0) := (f10.keep K12 (ninS ne1 nin0))
 obtain ⟨cl17, Ar17, q17, S17, M17, H17, G17⟩ := id f18
 have hin17 : ¬ ((2 : Int32) < 0 ∨ cl17.slots.size ≤ ((2 : Int32)).toNatClampNeg) := inb_of S17 ⟨by decide, by decide⟩
 have hat17 : cl17.slots[((2 : Int32)).toNatClampNeg]? = some (.int c2) := H17.at hin17 rfl
 refine own_by (T' := T11) (g' := (mkF m 13 #[.val (.ref b), .val (.int 2), .val (.ref d), .val (.int 2), .val (.int 4), .val (.int 2), .val (.int c1)] [.int c2])) (fun _ kt_ => X11.caload hx (j := (2 : Int32)) (v := (.int c2)) (by rw [e11]; exact Ar17.1) (State.isArrayOf_alike hZ.alike Ar17.2.1) Ar17.2.2 hin17 hat17 (g := (mkF m 12 #[.val (.ref b), .val (.int 2), .val (.ref d), .val (.int 2), .val (.int 4), .val (.int 2), .val (.int c1)] [.int 2, .ref b])) rfl rfl (hb hby own_d10_12) _ kt_) ?_
 refine own_by (T' := T11) (g' := (mkF m 15 #[.val (.ref b), .val (.int 2), .val (.ref d), .val (.int 2), .val (.int 4), .val (.int 2), .val (.int c2)] [])) (fun _ kt_ => XS.istore X11.here hx rfl (hb hby own_d10_13) rfl (l' := #[.val (.ref b), .val (.int 2), .val (.ref d), .val (.int 2), .val (.int 4), .val (.int 2), .val (.int c2)]) rfl kt_) ?_
 refine own_by (T' := T11) (g' := (mkF m 17 #[.val (.ref b), .val (.int 2), .val (.ref d), .val (.int 2), .val (.int 4), .val (.int 2), .val (.int c2)] [.int c2])) (fun _ kt_ => XS.iload X11.here hx rfl (hb hby own_d10_15) rfl kt_) ?_
 refine own_by (T' := T11) (g' := (mkF m 20 #[.val (.ref b), .val (.int 2), .val (.ref d), .val (.int 2), .val (.int 4), .val (.int 2), .val (.int c2)] [.int 255, .int c2])) (fun _ kt_ => XS.sipush X11.here hx rfl (hb hby own_d10_17) kt_) ?_
 refine own_by (T' := T11) (g' := (mkF m 26 #[.val (.ref b), .val (.int 2), .val (.ref d), .val (.int 2), .val (.int 4), .val (.int 2), .val (.int c2)] [])) (fun _ kt_ => XS.icmpYes X11.here hx rfl (pc0 := 20) (pc' := 26) rfl (hb hby own_d10_20) rfl (XT.ii_le_t hp2) (by decide) (by decide) kt_) ?_
 refine own_by (T' := T11) (g' := (mkF m 27 #[.val (.ref b), .val (.int 2), .val (.ref d), .val (.int 2), .val (.int 4), .val (.int 2), .val (.int c2)] [.ref d])) (fun _ kt_ => XS.aloadN X11.here hx rfl (hb hby own_d10_26) rfl rfl kt_) ?_
 refine own_by (T' := T11) (g' := (mkF m 28 #[.val (.ref b), .val (.int 2), .val (.ref d), .val (.int 2), .val (.int 4), .val (.int 2), .val (.int c2)] [.int 2, .ref d])) (fun _ kt_ => XS.iloadN X11.here hx rfl (hb hby own_d10_27) rfl kt_) ?_
 refine own_by (T' := T11) (g' := (mkF m 30 #[.val (.ref b), .val (.int 2), .val (.ref d), .val (.int 2), .val (.int 4), .val (.int 2), .val (.int c2)] [.int c2, .int 2, .ref d])) (fun _ kt_ => XS.iload X11.here hx rfl (hb hby own_d10_28) rfl kt_) ?_
 refine own_by (T' := T11) (g' := (mkF m 31 #[.val (.ref b), .val (.int 2), .val (.ref d), .val (.int 2), .val (.int 4), .val (.int 2), .val (.int c2)] [(.int c2.toInt8.toInt32), .int 2, .ref d])) (fun _ kt_ => XS.i2b X11.here hx rfl (hb hby own_d10_30) rfl kt_) ?_
 obtain ⟨cl19, Ar19, q19, S19, M19, H19, G19⟩ := id f15
 have hin19 : ¬ ((2 : Int32) < 0 ∨ cl19.slots.size ≤ ((2 : Int32)).toNatClampNeg) := inb_of S19 ⟨by decide, by decide⟩
 obtain ⟨T19, h19, X19, e19, W19, st19⟩ := stB X11 hx hZ e11 Ar19 (j := (2 : Int32)) hin19 (g := (mkF m 31 #[.val (.ref b), .val (.int 2), .val (.ref d), .val (.int 2), .val (.int 4), .val (.int 2), .val (.int c2)] [(.int c2.toInt8.toInt32), .int 2, .ref d])) rfl rfl (hb hby own_d10_31)
 rw [show nar .byte c2.toInt8.toInt32 = c2.toInt8.toInt32 from own_narB _] at W19
 have K20 : Keep h11 h19 [d] := Keep.of_wr W19
 have zzK20 : h11.size ≤ h19.size := K20.1
 have oo21 : Old Z n0 h19 := oo13.keep K20 (allS (by omega : n0 ≤ d) all0)
 have kt22 : Keep h0 h19 [d] := kt14.trans K20 (allS (Or.inl (List.mem_of_getElem? (i := 0) rfl)) all0)
 have f23 : Arv Z h19 d kB .byte (4 : Int32) [(.int c0.toInt8.toInt32), (.int c1.toInt8.toInt32), (.int c2.toInt8.toInt32), .int 0] (.int 0) := Arv.set Ar19 q19 S19 M19 H19 G19 (fits_nar_byte _) W19 2 rfl (Nat.le_of_ble_eq_true rfl)
 have N24 := Fr.snoc X19 N16 (by omega : n0 ≤ d)
 refine own_by (T' := T19) (g' := (mkF m 32 #[.val (.ref b), .val (.int 2), .val (.ref d), .val (.int 2), .val (.int 4), .val (.int 2), .val (.int c2)] [])) st19 ?_
 refine own_by (T' := T19) (g' := (mkF m 35 #[.val (.ref b), .val (.int ((2 : Int32) + (1 : Int32))), .val (.ref d), .val (.int 2), .val (.int 4), .val (.int 2), .val (.int c2)] [])) (fun _ kt_ => XS.iinc X19.here hx rfl (hb hby own_d10_32) rfl (l' := #[.val (.ref b), .val (.int ((2 : Int32) + (1 : Int32))), .val (.ref d), .val (.int 2), .val (.int 4), .val (.int 2), .val (.int c2)]) rfl kt_) ?_
 rw [show ((2 : Int32) + (1 : Int32)) = (3 : Int32) from by decide]
 refine own_by (T' := T19) (g' := (mkF m 38 #[.val (.ref b), .val (.int 3), .val (.ref d), .val (.int ((2 : Int32) + (1 : Int32))), .val (.int 4), .val (.int 2), .val (.int c2)] [])) (fun _ kt_ => XS.iinc X19.here hx rfl (hb hby own_d10_35) rfl (l' := #[.val (.ref b), .val (.int 3), .val (.ref d), .val (.int ((2 : Int32) + (1 : Int32))), .val (.int 4), .val (.int 2), .val (.int c2)]) rfl kt_) ?_
 rw [show ((2 : Int32) + (1 : Int32)) = (3 : Int32) from by decide]
 refine own_by (T' := T19) (g' := (mkF m 41 #[.val (.ref b), .val (.int 3), .val (.ref d), .val (.int 3), .val (.int 4), .val (.int ((2 : Int32) + (1 : Int32))), .val (.int c2)] [])) (fun _ kt_ => XS.iinc X19.here hx rfl (hb hby own_d10_38) rfl (l' := #[.val (.ref b), .val (.int 3), .val (.ref d), .val (.int 3), .val (.int 4), .val (.int ((2 : Int32) + (1 : Int32))), .val (.int c2)]) rfl kt_) ?_
 rw [show ((2 : Int32) + (1 : Int32)) = (3 : Int32) from by decide]
 refine own_by (T' := T19) (g' := (mkF m 3 #[.val (.ref b), .val (.int 3), .val (.ref d), .val (.int 3), .val (.int 4), .val (.int 3), .val (.int c2)] [])) (fun _ kt_ => XS.goto X19.here hx rfl (pc0 := 41) (pc' := 3) rfl (hb hby own_d10_41) (by decide) (by decide) kt_) ?_
 refine own_by (T' := T19) (g' := (mkF m 5 #[.val (.ref b), .val (.int 3), .val (.ref d), .val (.int 3), .val (.int 4), .val (.int 3), .val (.int c2)] [.int 3])) (fun _ kt_ => XS.iload X19.here hx rfl (hb hby own_d10_3) rfl kt_) ?_
 refine own_by (T' := T19) (g' := (mkF m 7 #[.val (.ref b), .val (.int 3), .val (.ref d), .val (.int 3), .val (.int 4), .val (.int 3), .val (.int c2)] [.int 4, .int 3])) (fun _ kt_ => XS.iload X19.here hx rfl (hb hby own_d10_5) rfl kt_) ?_
 refine own_by (T' := T19) (g' := (mkF m 10 #[.val (.ref b), .val (.int 3), .val (.ref d), .val (.int 3), .val (.int 4), .val (.int 3), .val (.int c2)] [])) (fun _ kt_ => XS.icmpNo X19.here hx rfl (hb hby own_d10_7) rfl (XT.ii_ge_f (by decide)) kt_) ?_
 refine own_by (T' := T19) (g' := (mkF m 11 #[.val (.ref b), .val (.int 3), .val (.ref d), .val (.int 3), .val (.int 4), .val (.int 3), .val (.int c2)] [.ref b])) (fun _ kt_ => XS.aloadN X19.here hx rfl (hb hby own_d10_10) rfl rfl kt_) ?_
 refine own_by (T' := T19) (g' := (mkF m 12 #[.val (.ref b), .val (.int 3), .val (.ref d), .val (.int 3), .val (.int 4), .val (.int 3), .val (.int c2)] [.int 3, .ref b])) (fun _ kt_ => XS.iloadN X19.here hx rfl (hb hby own_d10_11) rfl kt_) ?_
 have f26 : Arv Z h19 b kC .char (4 : Int32) [.int c0, .int c1, .int c2, .int c3] (.int 0) := (f18.keep K20 (ninS ne1 nin0))
 obtain ⟨cl25, Ar25, q25, S25, M25, H25, G25⟩ := id f26
 have hin25 : ¬ ((3 : Int32) < 0 ∨ cl25.slots.size ≤ ((3 : Int32)).toNatClampNeg) := inb_of S25 ⟨by decide, by decide⟩
 have hat25 : cl25.slots[((3 : Int32)).toNatClampNeg]? = some (.int c3) := H25.at hin25 rfl
 refine own_by (T' := T19) (g' := (mkF m 13 #[.val (.ref b), .val (.int 3), .val (.ref d), .val (.int 3), .val (.int 4), .val (.int 3), .val (.int c2)] [.int c3])) (fun _ kt_ => X19.caload hx (j := (3 : Int32)) (v := (.int c3)) (by rw [e19]; exact Ar25.1) (State.isArrayOf_alike hZ.alike Ar25.2.1) Ar25.2.2 hin25 hat25 (g := (mkF m 12 #[.val (.ref b), .val (.int 3), .val (.ref d), .val (.int 3), .val (.int 4), .val (.int 3), .val (.int c2)] [.int 3, .ref b])) rfl rfl (hb hby own_d10_12) _ kt_) ?_
 refine own_by (T' := T19) (g' := (mkF m 15 #[.val (.ref b), .val (.int 3), .val (.ref d), .val (.int 3), .val (.int 4), .val (.int 3), .val (.int c3)] [])) (fun _ kt_ => XS.istore X19.here hx rfl (hb hby own_d10_13) rfl (l' := #[.val (.ref b), .val (.int 3), .val (.ref d), .val (.int 3), .val (.int 4), .val (.int 3), .val (.int c3)]) rfl kt_) ?_
 refine own_by (T' := T19) (g' := (mkF m 17 #[.val (.ref b), .val (.int 3), .val (.ref d), .val (.int 3), .val (.int 4), .val (.int 3), .val (.int c3)] [.int c3])) (fun _ kt_ => XS.iload X19.here hx rfl (hb hby own_d10_15) rfl kt_) ?_
 refine own_by (T' := T19) (g' := (mkF m 20 #[.val (.ref b), .val (.int 3), .val (.ref d), .val (.int 3), .val (.int 4), .val (.int 3), .val (.int c3)] [.int 255, .int c3])) (fun _ kt_ => XS.sipush X19.here hx rfl (hb hby own_d10_17) kt_) ?_
 refine own_by (T' := T19) (g' := (mkF m 26 #[.val (.ref b), .val (.int 3), .val (.ref d), .val (.int 3), .val (.int 4), .val (.int 3), .val (.int c3)] [])) (fun _ kt_ => XS.icmpYes X19.here hx rfl (pc0 := 20) (pc' := 26) rfl (hb hby own_d10_20) rfl (XT.ii_le_t hp3) (by decide) (by decide) kt_) ?_
 refine own_by (T' := T19) (g' := (mkF m 27 #[.val (.ref b), .val (.int 3), .val (.ref d), .val (.int 3), .val (.int 4), .val (.int 3), .val (.int c3)] [.ref d])) (fun _ kt_ => XS.aloadN X19.here hx rfl (hb hby own_d10_26) rfl rfl kt_) ?_
 refine own_by (T' := T19) (g' := (mkF m 28 #[.val (.ref b), .val (.int 3), .val (.ref d), .val (.int 3), .val (.int 4), .val (.int 3), .val (.int c3)] [.int 3, .ref d])) (fun _ kt_ => XS.iloadN X19.here hx rfl (hb hby own_d10_27) rfl kt_) ?_
 refine own_by (T' := T19) (g' := (mkF m 30 #[.val (.ref b), .val (.int 3), .val (.ref d), .val (.int 3), .val (.int 4), .val (.int 3), .val (.int c3)] [.int c3, .int 3, .ref d])) (fun _ kt_ => XS.iload X19.here hx rfl (hb hby own_d10_28) rfl kt_) ?_
 refine own_by (T' := T19) (g' := (mkF m 31 #[.val (.ref b), .val (.int 3), .val (.ref d), .val (.int 3), .val (.int 4), .val (.int 3), .val (.int c3)] [(.int c3.toInt8.toInt32), .int 3, .ref d])) (fun _ kt_ => XS.i2b X19.here hx rfl (hb hby own_d10_30) rfl kt_) ?_
 obtain ⟨cl27, Ar27, q27, S27, M27, H27, G27⟩ := id f23
 have hin27 : ¬ ((3 : Int32) < 0 ∨ cl27.slots.size ≤ ((3 : Int32)).toNatClampNeg) := inb_of S27 ⟨by decide, by decide⟩
 obtain ⟨T27, h27, X27, e27, W27, st27⟩ := stB X19 hx hZ e19 Ar27 (j := (3 : Int32)) hin27 (g := (mkF m 31 #[.val (.ref b), .val (.int 3), .val (.ref d), .val (.int 3), .val (.int 4), .val (.int 3), .val (.int c3)] [(.int c3.toInt8.toInt32), .int 3, .ref d])) rfl rfl (hb hby own_d10_31)
 rw [show nar .byte c3.toInt8.toInt32 = c3.toInt8.toInt32 from own_narB _] at W27
 have K28 : Keep h19 h27 [d] := Keep.of_wr W27
 have zzK28 : h19.size ≤ h27.size := K28.1
 have oo29 : Old Z n0 h27 := oo21.keep K28 (allS (by omega : n0 ≤ d) all0)
 have kt30 : Keep h0 h27 [d] := kt22.trans K28 (allS (Or.inl (List.mem_of_getElem? (i := 0) rfl)) all0)
 have f31 : Arv Z h27 d kB .byte (4 : Int32) [(.int c0.toInt8.toInt32), (.int c1.toInt8.toInt32), (.int c2.toInt8.toInt32), (.int c3.toInt8.toInt32)] (.int 0) := Arv.set Ar27 q27 S27 M27 H27 G27 (fits_nar_byte _) W27 3 rfl (Nat.le_of_ble_eq_true rfl)
 have N32 := Fr.snoc X27 N24 (by omega : n0 ≤ d)
 refine own_by (T' := T27) (g' := (mkF m 32 #[.val (.ref b), .val (.int 3), .val (.ref d), .val (.int 3), .val (.int 4), .val (.int 3), .val (.int c3)] [])) st27 ?_
 refine own_by (T' := T27) (g' := (mkF m 35 #[.val (.ref b), .val (.int ((3 : Int32) + (1 : Int32))), .val (.ref d), .val (.int 3), .val (.int 4), .val (.int 3), .val (.int c3)] [])) (fun _ kt_ => XS.iinc X27.here hx rfl (hb hby own_d10_32) rfl (l' := #[.val (.ref b), .val (.int ((3 : Int32) + (1 : Int32))), .val (.ref d), .val (.int 3), .val (.int 4), .val (.int 3), .val (.int c3)]) rfl kt_) ?_
 rw [show ((3 : Int32) + (1 : Int32)) = (4 : Int32) from by decide]
 refine own_by (T' := T27) (g' := (mkF m 38 #[.val (.ref b), .val (.int 4), .val (.ref d), .val (.int ((3 : Int32) + (1 : Int32))), .val (.int 4), .val (.int 3), .val (.int c3)] [])) (fun _ kt_ => XS.iinc X27.here hx rfl (hb hby own_d10_35) rfl (l' := #[.val (.ref b), .val (.int 4), .val (.ref d), .val (.int ((3 : Int32) + (1 : Int32))), .val (.int 4), .val (.int 3), .val (.int c3)]) rfl kt_) ?_
 rw [show ((3 : Int32) + (1 : Int32)) = (4 : Int32) from by decide]
 refine own_by (T' := T27) (g' := (mkF m 41 #[.val (.ref b), .val (.int 4), .val (.ref d), .val (.int 4), .val (.int 4), .val (.int ((3 : Int32) + (1 : Int32))), .val (.int c3)] [])) (fun _ kt_ => XS.iinc X27.here hx rfl (hb hby own_d10_38) rfl (l' := #[.val (.ref b), .val (.int 4), .val (.ref d), .val (.int 4), .val (.int 4), .val (.int ((3 : Int32) + (1 : Int32))), .val (.int c3)]) rfl kt_) ?_
 rw [show ((3 : Int32) + (1 : Int32)) = (4 : Int32) from by decide]
 refine own_by (T' := T27) (g' := (mkF m 3 #[.val (.ref b), .val (.int 4), .val (.ref d), .val (.int 4), .val (.int 4), .val (.int 4), .val (.int c3)] [])) (fun _ kt_ => XS.goto X27.here hx rfl (pc0 := 41) (pc' := 3) rfl (hb hby own_d10_41) (by decide) (by decide) kt_) ?_
 refine own_by (T' := T27) (g' := (mkF m 5 #[.val (.ref b), .val (.int 4), .val (.ref d), .val (.int 4), .val (.int 4), .val (.int 4), .val (.int c3)] [.int 4])) (fun _ kt_ => XS.iload X27.here hx rfl (hb hby own_d10_3) rfl kt_) ?_
 refine own_by (T' := T27) (g' := (mkF m 7 #[.val (.ref b), .val (.int 4), .val (.ref d), .val (.int 4), .val (.int 4), .val (.int 4), .val (.int c3)] [.int 4, .int 4])) (fun _ kt_ => XS.iload X27.here hx rfl (hb hby own_d10_5) rfl kt_) ?_
 refine own_by (T' := T27) (g' := (mkF m 44 #[.val (.ref b), .val (.int 4), .val (.ref d), .val (.int 4), .val (.int 4), .val (.int 4), .val (.int c3)] [])) (fun _ kt_ => XS.icmpYes X27.here hx rfl (pc0 := 7) (pc' := 44) rfl (hb hby own_d10_7) rfl (XT.ii_ge_t (by decide)) (by decide) (by decide) kt_) ?_
 refine own_by (T' := T27) (g' := (mkF m 46 #[.val (.ref b), .val (.int 4), .val (.ref d), .val (.int 4), .val (.int 4), .val (.int 4), .val (.int c3)] [.int 4])) (fun _ kt_ => XS.iload X27.here hx rfl (hb hby own_d10_44) rfl kt_) ?_
 obtain ⟨fs33, hr33, hrun33, hended33, hW33, hsame33⟩ := X27.leave (v := some (.int 4)) (fun h => by rw [Bd.returns] at h; cases h)
 refine ⟨_, _, retOut X27 hx (t := .int) Bd.returns rfl (Or.inl ⟨rfl, Or.inl rfl, _, rfl⟩) (hb hby own_d10_46) hr33, hrun33, hended33, _, _, rfl, ?_, ⟨_, rfl⟩, hW33, hsame33.mono (by decide) (by decide)⟩
 show Q_rmC5_4 Z zC vF hvF b d kC kB c0 c1 c2 c3 h0 n0 _ T27.heap _
 rw [e27]
 exact ⟨rfl, N32, kt30, f31⟩
theorem own_ef_rmC3_4 (m : MethodId) (x0 : Addr) (x1 : Int32) (x2 : Int32) : entryFrame m #[.ref x0, .int x1, .int x2] 6 = mkF m 0 #[.val (.ref x0), .val (.int x1), .val (.int x2), .unset, .unset, .unset] [] := by first | (simp [entryFrame, mkF, argsToLocals, Value.category]; done) | rfl
def Q_rmC3_4 (Z : State) (zC : Int32) (vF : Value) (hvF : vF.isRef = true) (b : Addr) (kC : ClassId) (c0 : Int32) (c1 : Int32) (c2 : Int32) (c3 : Int32) (h0 : Heap) (n0 : Nat) (vv_ : Option Value) (hh_ : Heap) (LL_ : List Loc) : Prop := ∃ d : Addr, ∃ kB : ClassId, vv_ = some (.ref d) ∧ Fr n0 LL_ ∧ Keep h0 hh_ [] ∧ h0.size ≤ d ∧ Arv Z hh_ d kB .byte (4 : Int32) [(.int c0.toInt8.toInt32), (.int c1.toInt8.toInt32), (.int c2.toInt8.toInt32), (.int c3.toInt8.toInt32)] (.int 0)
set_option maxRecDepth 65536 in
set_option maxHeartbeats 40000000 in
theorem rmC3_4 (l : Launch) (Z : State) (a0 : Array Value) (hw : ∀ d ∈ tables_1, d.before a0 Z = true) (ws : List Jvm.Cond) (zC : Int32) (vF : Value) (hvF : vF.isRef = true) (GS : Glob Z zC vF hvF) (b : Addr) (kC : ClassId) (c0 : Int32) (c1 : Int32) (c2 : Int32) (c3 : Int32) (h0 : Heap) (n0 : Nat) (Z0 : n0 ≤ h0.size) (O0 : Old Z n0 h0) (Vb : Arv Z h0 b kC .char (4 : Int32) [.int c0, .int c1, .int c2, .int c3] (.int 0)) (hp0 : ¬ (255 : Int32) < c0) (hp1 : ¬ (255 : Int32) < c1) (hp2 : ¬ (255 : Int32) < c2) (hp3 : ¬ (255 : Int32) < c3) :
  MetFree l (⟨"java/lang/StringUTF16", "compress", "([CII)[B"⟩ : MethodName) (head1 (Jvm.Cond.code (⟨"java/lang/StringUTF16", "compress", "([CII)[B"⟩ : MethodName) jdk_52_method_16_code 6 (some (.array .byte)) :: ws) (⟨1, 1, 4, 18⟩ : Room)) (fun aa_ UU_ => aa_ = #[.ref b, .int 0, .int 4] ∧ Z.Warmed39 UU_.vm ∧ UU_.heap = h0) (fun _ _ _ _ _ => True) (fun _ UU_ oo_ UV_ => ∃ vv_ LL_, oo_ = .returned vv_ ∧ Q_rmC3_4 Z zC vF hvF b kC c0 c1 c2 c3 h0 n0 vv_ UV_.heap LL_ ∧ FrameEnd UU_ oo_ UV_ LL_ (⟨1, 1, 4, 18⟩ : Room).cells (⟨1, 1, 4, 18⟩ : Room).slots) := by
 refine MetFree.of_bodySF (plainFor_of_name own_pn_java_lang_StringUTF16) hisR ?_
 intro p e s m args below meth c s₁ Bd hml0 hP hK
 obtain ⟨rfl, hZ, hh⟩ := hP
 have hx := Bd.exec
 have hby := Bd.bytes
 have hml : c.maxLocals = 6 := hml0
 have hown : s.vm.findClass "java/lang/StringUTF16" = some m.cls := findClass_of_methodNamed Bd.named
 have hnm := (name_of_methodNamed Bd.named Bd.method).1
 have X0 : Stand p l e (⟨1, 1, 4, 18⟩ : Room) s m #[.ref b, .int 0, .int 4] below meth c s₁ [] 0 0 := Stand.of_body Bd
 have e0 : s₁.heap = h0 := by rw [← hh, Bd.state]; rfl
 have N0 := Fr.nil n0
 have hn0 : Z.heap.size = n0 := O0.1
 have KT0 : Keep h0 h0 [] := Keep.refl _ _
 refine own_enter (Φ := fun oo_ UV_ => ∃ vv_ LL_, oo_ = .returned vv_ ∧ Q_rmC3_4 Z zC vF hvF b kC c0 c1 c2 c3 h0 n0 vv_ UV_.heap LL_ ∧ FrameEnd s oo_ UV_ LL_ (⟨1, 1, 4, 18⟩ : Room).cells (⟨1, 1, 4, 18⟩ : Room).slots) (own_ef_rmC3_4 m b (0 : Int32) (4 : Int32)) ?_
 refine own_by (T' := s₁) (g' := (mkF m 1 #[.val (.ref b), .val (.int 0), .val (.int 4), .unset, .unset, .unset] [.int 4])) (fun _ kt_ => XS.iloadN X0.here hx rfl (hb hby own_d9_0) rfl kt_) ?_
 obtain ⟨T1, h1, k1, X1, e1, E1, A1, st1⟩ := newP X0 hx hZ (ww hw 22 rfl) e0 (g := (mkF m 1 #[.val (.ref b), .val (.int 0), .val (.int 4), .unset, .unset, .unset] [.int 4])) rfl (hb hby own_d9_1) rfl (by decide) (cap := 4) (by decide) (by decide) (by decide) (by decide)
 obtain ⟨b1, g1⟩ : ∃ z, z = h0.size := ⟨_, rfl⟩
 rw [← g1] at A1 st1
 have K2 : Keep h0 h1 [] := own_kext E1
 have zzK2 : h0.size ≤ h1.size := K2.1
 have oo3 : Old Z n0 h1 := O0.keep K2 all0
 have kt4 : Keep h0 h1 [] := KT0.trans K2 all0
 have lab1 : b1 < h1.size := A1.lt
 have f5 : Arv Z h1 b1 k1 .byte (4 : Int32) [.int 0, .int 0, .int 0, .int 0] (.int 0) := (Arv.new A1 (by decide)).pad (pad_rep [] (.int 0) 4)
 refine own_by (T' := T1) (g' := (mkF m 3 #[.val (.ref b), .val (.int 0), .val (.int 4), .unset, .unset, .unset] [.ref b1])) st1 ?_
 refine own_by (T' := T1) (g' := (mkF m 4 #[.val (.ref b), .val (.int 0), .val (.int 4), .val (.ref b1), .unset, .unset] [])) (fun _ kt_ => XS.astoreN X1.here hx rfl (hb hby own_d9_3) rfl rfl (l' := #[.val (.ref b), .val (.int 0), .val (.int 4), .val (.ref b1), .unset, .unset]) rfl kt_) ?_
 refine own_by (T' := T1) (g' := (mkF m 5 #[.val (.ref b), .val (.int 0), .val (.int 4), .val (.ref b1), .unset, .unset] [.ref b])) (fun _ kt_ => XS.aloadN X1.here hx rfl (hb hby own_d9_4) rfl rfl kt_) ?_
 refine own_by (T' := T1) (g' := (mkF m 6 #[.val (.ref b), .val (.int 0), .val (.int 4), .val (.ref b1), .unset, .unset] [.int 0, .ref b])) (fun _ kt_ => XS.iloadN X1.here hx rfl (hb hby own_d9_5) rfl kt_) ?_
 refine own_by (T' := T1) (g' := (mkF m 7 #[.val (.ref b), .val (.int 0), .val (.int 4), .val (.ref b1), .unset, .unset] [.ref b1, .int 0, .ref b])) (fun _ kt_ => XS.aloadN X1.here hx rfl (hb hby own_d9_6) rfl rfl kt_) ?_
 refine own_by (T' := T1) (g' := (mkF m 8 #[.val (.ref b), .val (.int 0), .val (.int 4), .val (.ref b1), .unset, .unset] [.int 0, .ref b1, .int 0, .ref b])) (fun _ kt_ => XS.iconst X1.here hx rfl (hb hby own_d9_7) kt_) ?_
 refine own_by (T' := T1) (g' := (mkF m 9 #[.val (.ref b), .val (.int 0), .val (.int 4), .val (.ref b1), .unset, .unset] [.int 4, .int 0, .ref b1, .int 0, .ref b])) (fun _ kt_ => XS.iloadN X1.here hx rfl (hb hby own_d9_8) rfl kt_) ?_
 have f6 : Arv Z h1 b kC .char (4 : Int32) [.int c0, .int c1, .int c2, .int c3] (.int 0) := (Vb.keep K2 nin0)
 have la7 : @LT.lt Nat instLTNat b h0.size := Vb.lt
 have ne8 : @Ne Nat b b1 := by omega
 obtain ⟨_, _, ⟨T9, L9, k9, n9⟩, -, X9, ⟨Lc9, hQ9, l9, y9, z9⟩, st9⟩ := Jvm.LawKit.callS X1 hx (y := (⟨"java/lang/StringUTF16", "compress", "([CI[BII)I"⟩ : MethodName)) hown (mvT hZ (ww hw 48 rfl)) (mvT hZ (ww hw 49 rfl)) (mvT hZ (ww hw 46 rfl)) (mvT hZ (ww hw 50 rfl)) (by decide) (backOf (W := 0) (rmC5_4 l Z a0 hw [] zC vF hvF GS b b1 kC k1 c0 c1 c2 c3 h1 n0 (by omega) oo3 f6 f5 (by omega) ne8 hp0 hp1 hp2 hp3) hZ (ww hw 50 rfl) (ww hw 46 rfl) (by decide) (by decide)) (g := (mkF m 9 #[.val (.ref b), .val (.int 0), .val (.int 4), .val (.ref b1), .unset, .unset] [.int 4, .int 0, .ref b1, .int 0, .ref b])) rfl (by rw [hml]; rfl) (argsL := [.ref b, .int 0, .ref b1, .int 0, .int 4]) (rest := []) (lenOf own_pd_0 rfl) rfl (by show 2 * 0 + _ ≤ _; exact Nat.le_of_eq rfl) (hb hby own_d9_9) (fun _ _ => ⟨rfl, e1, (by decide : 1 + 0 ≤ _), (by decide : 4 + 0 ≤ _)⟩)
 dsimp only [Pt.U, Pt.locs, Pt.cells, Pt.slots] at X9 l9 y9 z9 st9 hQ9
 subst l9 y9 z9
 obtain ⟨rfl, N9q, K9, p9_0⟩ := hQ9
 have N10 := Fr.app N0 N9q
 have zzK9 : h1.size ≤ T9.heap.size := K9.1
 have oo11 : Old Z n0 T9.heap := oo3.keep K9 (allS (by omega : n0 ≤ b1) all0)
 have kt12 : Keep h0 T9.heap [] := kt4.trans K9 (allS (Or.inr (by omega : h0.size ≤ b1)) all0)
 refine own_by (T' := T9) (g' := (mkF m 12 #[.val (.ref b), .val (.int 0), .val (.int 4), .val (.ref b1), .unset, .unset] [.int 4])) st9 ?_
 refine own_by (T' := T9) (g' := (mkF m 14 #[.val (.ref b), .val (.int 0), .val (.int 4), .val (.ref b1), .val (.int 4), .unset] [])) (fun _ kt_ => XS.istore X9.here hx rfl (hb hby own_d9_12) rfl (l' := #[.val (.ref b), .val (.int 0), .val (.int 4), .val (.ref b1), .val (.int 4), .unset]) rfl kt_) ?_
 refine own_by (T' := T9) (g' := (mkF m 16 #[.val (.ref b), .val (.int 0), .val (.int 4), .val (.ref b1), .val (.int 4), .unset] [.int 4])) (fun _ kt_ => XS.iload X9.here hx rfl (hb hby own_d9_14) rfl kt_) ?_
 refine own_by (T' := T9) (g' := (mkF m 17 #[.val (.ref b), .val (.int 0), .val (.int 4), .val (.ref b1), .val (.int 4), .unset] [.int 4, .int 4])) (fun _ kt_ => XS.iloadN X9.here hx rfl (hb hby own_d9_16) rfl kt_) ?_
 refine own_by (T' := T9) (g' := (mkF m 57 #[.val (.ref b), .val (.int 0), .val (.int 4), .val (.ref b1), .val (.int 4), .unset] [])) (fun _ kt_ => XS.icmpYes X9.here hx rfl (pc0 := 17) (pc' := 57) rfl (hb hby own_d9_17) rfl (XT.ii_eq_t (by decide)) (by decide) (by decide) kt_) ?_
 refine own_by (T' := T9) (g' := (mkF m 58 #[.val (.ref b), .val (.int 0), .val (.int 4), .val (.ref b1), .val (.int 4), .unset] [.ref b1])) (fun _ kt_ => XS.aloadN X9.here hx rfl (hb hby own_d9_57) rfl rfl kt_) ?_
 obtain ⟨fs13, hr13, hrun13, hended13, hW13, hsame13⟩ := X9.leave (v := some (.ref b1)) (fun h => by rw [Bd.returns] at h; cases h)
 refine ⟨_, _, retOut X9 hx (t := (.array .byte)) Bd.returns rfl (Or.inr (Or.inr (Or.inr (Or.inr ⟨rfl, rfl, rfl⟩)))) (hb hby own_d9_58) hr13, hrun13, hended13, _, _, rfl, ?_, ⟨_, rfl⟩, hW13, hsame13.mono (by decide) (by decide)⟩
 show Q_rmC3_4 Z zC vF hvF b kC c0 c1 c2 c3 h0 n0 _ T9.heap _
 exact ⟨b1, k1, rfl, N10, kt12, (by omega), p9_0⟩
theorem own_ef_rmCod_4 (m : MethodId) (x0 : Addr) (x1 : Int32) : entryFrame m #[.ref x0, .int x1] 2 = mkF m 0 #[.val (.ref x0), .val (.int x1)] [] := by first | (simp [entryFrame, mkF, argsToLocals, Value.category]; done) | rfl
def Q_rmCod_4 (Z : State) (zC : Int32) (vF : Value) (hvF : vF.isRef = true) (d : Addr) (kB : ClassId) (b0 : Int32) (b1 : Int32) (b2 : Int32) (b3 : Int32) (h0 : Heap) (n0 : Nat) (vv_ : Option Value) (hh_ : Heap) (LL_ : List Loc) : Prop := vv_ = some (.int 0) ∧ Fr n0 LL_ ∧ hh_ = h0
set_option maxRecDepth 65536 in
set_option maxHeartbeats 40000000 in
theorem rmCod_4 (l : Launch) (Z : State) (a0 : Array Value) (hw : ∀ d ∈ tables_1, d.before a0 Z = true) (ws : List Jvm.Cond) (zC : Int32) (vF : Value) (hvF : vF.isRef = true) (GS : Glob Z zC vF hvF) (d : Addr) (kB : ClassId) (b0 : Int32) (b1 : Int32) (b2 : Int32) (b3 : Int32) (h0 : Heap) (n0 : Nat) (Z0 : n0 ≤ h0.size) (O0 : Old Z n0 h0) (Vd : Arv Z h0 d kB .byte (4 : Int32) [.int b0, .int b1, .int b2, .int b3] (.int 0)) :
  MetFree l (⟨"java/lang/StringUTF16", "coderFromArrayLen", "([BI)B"⟩ : MethodName) (head1 (Jvm.Cond.code (⟨"java/lang/StringUTF16", "coderFromArrayLen", "([BI)B"⟩ : MethodName) jdk_52_method_15_code 2 (some .byte) :: ws) (⟨0, 0, 0, 0⟩ : Room)) (fun aa_ UU_ => aa_ = #[.ref d, .int 4] ∧ Z.Warmed39 UU_.vm ∧ UU_.heap = h0) (fun _ _ _ _ _ => True) (fun _ UU_ oo_ UV_ => ∃ vv_ LL_, oo_ = .returned vv_ ∧ Q_rmCod_4 Z zC vF hvF d kB b0 b1 b2 b3 h0 n0 vv_ UV_.heap LL_ ∧ FrameEnd UU_ oo_ UV_ LL_ (⟨0, 0, 0, 0⟩ : Room).cells (⟨0, 0, 0, 0⟩ : Room).slots) := by
 refine MetFree.of_bodySF (plainFor_of_name own_pn_java_lang_StringUTF16) hisR ?_
 intro p e s m args below meth c s₁ Bd hml0 hP hK
 obtain ⟨rfl, hZ, hh⟩ := hP
 have hx := Bd.exec
 have hby := Bd.bytes
 have hml : c.maxLocals = 2 := hml0
 have hown : s.vm.findClass "java/lang/StringUTF16" = some m.cls := findClass_of_methodNamed Bd.named
 have hnm := (name_of_methodNamed Bd.named Bd.method).1
 have X0 : Stand p l e (⟨0, 0, 0, 0⟩ : Room) s m #[.ref d, .int 4] below meth c s₁ [] 0 0 := Stand.of_body Bd
 have e0 : s₁.heap = h0 := by rw [← hh, Bd.state]; rfl
 have N0 := Fr.nil n0
 have hn0 : Z.heap.size = n0 := O0.1
 have KT0 : Keep h0 h0 [] := Keep.refl _ _
 refine own_enter (Φ := fun oo_ UV_ => ∃ vv_ LL_, oo_ = .returned vv_ ∧ Q_rmCod_4 Z zC vF hvF d kB b0 b1 b2 b3 h0 n0 vv_ UV_.heap LL_ ∧ FrameEnd s oo_ UV_ LL_ (⟨0, 0, 0, 0⟩ : Room).cells (⟨0, 0, 0, 0⟩ : Room).slots) (own_ef_rmCod_4 m d (4 : Int32)) ?_
 refine own_by (T' := s₁) (g' := (mkF m 1 #[.val (.ref d), .val (.int 4)] [.int 4])) (fun _ kt_ => XS.iloadN X0.here hx rfl (hb hby own_d11_0) rfl kt_) ?_
 refine own_by (T' := s₁) (g' := (mkF m 2 #[.val (.ref d), .val (.int 4)] [.ref d, .int 4])) (fun _ kt_ => XS.aloadN X0.here hx rfl (hb hby own_d11_1) rfl rfl kt_) ?_
 obtain ⟨cl1, Ar1, q1, S1, M1, H1, G1⟩ := id Vd
 refine own_by (T' := s₁) (g' := (mkF m 3 #[.val (.ref d), .val (.int 4)] [.int 4, .int 4])) (fun _ kt_ => X0.arraylength hx (by rw [e0]; exact Ar1.1) (State.isArrayOf_alike hZ.alike Ar1.2.1) (g := (mkF m 2 #[.val (.ref d), .val (.int 4)] [.ref d, .int 4])) rfl rfl (hb hby own_d11_2) _ (by rw [len_of S1 M1]; exact kt_)) ?_
 refine own_by (T' := s₁) (g' := (mkF m 4 #[.val (.ref d), .val (.int 4)] [(.int ((4 : Int32) - (4 : Int32)))])) (fun _ kt_ => XS.isub X0.here hx rfl (hb hby own_d11_3) rfl kt_) ?_
 rw [show ((4 : Int32) - (4 : Int32)) = (0 : Int32) from by decide]
 refine own_by (T' := s₁) (g' := (mkF m 6 #[.val (.ref d), .val (.int 4)] [.int 31, .int 0])) (fun _ kt_ => XS.bipush X0.here hx rfl (hb hby own_d11_4) kt_) ?_
 refine own_by (T' := s₁) (g' := (mkF m 7 #[.val (.ref d), .val (.int 4)] [(.int (((0 : Int32).toUInt32 >>> ((31 : Int32) &&& 31).toUInt32).toInt32))])) (fun _ kt_ => XS.iushr X0.here hx rfl (hb hby own_d11_6) rfl kt_) ?_
 refine own_by (T' := s₁) (g' := (mkF m 8 #[.val (.ref d), .val (.int 4)] [(.int (((0 : Int32).toUInt32 >>> ((31 : Int32) &&& 31).toUInt32).toInt32).toInt8.toInt32)])) (fun _ kt_ => XS.i2b X0.here hx rfl (hb hby own_d11_7) rfl kt_) ?_
 have hn2 : nar .byte ((((0 : Int32).toUInt32 >>> ((31 : Int32) &&& 31).toUInt32).toInt32).toInt8.toInt32) = (((0 : Int32).toUInt32 >>> ((31 : Int32) &&& 31).toUInt32).toInt32).toInt8.toInt32 := by decide
 have hr3 : (((0 : Int32).toUInt32 >>> ((31 : Int32) &&& 31).toUInt32).toInt32).toInt8.toInt32 = (0 : Int32) := by decide
 obtain ⟨fs4, hr4, hrun4, hended4, hW4, hsame4⟩ := X0.leave (v := some (.int (nar .byte ((((0 : Int32).toUInt32 >>> ((31 : Int32) &&& 31).toUInt32).toInt32).toInt8.toInt32)))) (fun h => by rw [Bd.returns] at h; cases h)
 refine ⟨_, _, retN X0 hx (t := .byte) Bd.returns (by simp) (hb hby own_d11_8) hr4, hrun4, hended4, _, _, rfl, ?_, ⟨_, rfl⟩, hW4, hsame4.mono (by decide) (by decide)⟩
 show Q_rmCod_4 Z zC vF hvF d kB b0 b1 b2 b3 h0 n0 _ s₁.heap _
 exact ⟨(congrArg (fun z => some (Value.int z)) (hn2.trans hr3)), N0, e0⟩
theorem own_ef_rmS4_4 (m : MethodId) (x0 : Addr) (x1 : Addr) (x2 : Int32) (x3 : Int32) : entryFrame m #[.ref x0, .ref x1, .int x2, .int x3, .null] 6 = mkF m 0 #[.val (.ref x0), .val (.ref x1), .val (.int x2), .val (.int x3), .val .null, .unset] [] := by first | (simp [entryFrame, mkF, argsToLocals, Value.category]; done) | rfl
def Q_rmS4_4 (Z : State) (zC : Int32) (vF : Value) (hvF : vF.isRef = true) (x : Addr) (b : Addr) (kC : ClassId) (c0 : Int32) (c1 : Int32) (c2 : Int32) (c3 : Int32) (h0 : Heap) (n0 : Nat) (vv_ : Option Value) (hh_ : Heap) (LL_ : List Loc) : Prop := ∃ t : Addr, ∃ kB : ClassId, vv_ = none ∧ Fr n0 LL_ ∧ Keep h0 hh_ [x] ∧ h0.size ≤ t ∧ Fld Z hh_ x "java/lang/String" "value" "[B" (.ref t) ∧ Fld Z hh_ x "java/lang/String" "coder" "B" (.int 0) ∧ Arv Z hh_ t kB .byte (4 : Int32) [(.int c0.toInt8.toInt32), (.int c1.toInt8.toInt32), (.int c2.toInt8.toInt32), (.int c3.toInt8.toInt32)] (.int 0)
set_option maxRecDepth 65536 in
set_option maxHeartbeats 40000000 in
theorem rmS4_4 (l : Launch) (Z : State) (a0 : Array Value) (hw : ∀ d ∈ tables_1, d.before a0 Z = true) (ws : List Jvm.Cond) (zC : Int32) (vF : Value) (hvF : vF.isRef = true) (GS : Glob Z zC vF hvF) (x : Addr) (b : Addr) (kC : ClassId) (c0 : Int32) (c1 : Int32) (c2 : Int32) (c3 : Int32) (h0 : Heap) (n0 : Nat) (Z0 : n0 ≤ h0.size) (O0 : Old Z n0 h0) (E_x : Exa Z h0 x "java/lang/String") (g_x : n0 ≤ x) (Fv : Fld Z h0 x "java/lang/String" "value" "[B" .null) (Fc : Fld Z h0 x "java/lang/String" "coder" "B" (.int 0)) (Vb : Arv Z h0 b kC .char (4 : Int32) [.int c0, .int c1, .int c2, .int c3] (.int 0)) (hbx : b ≠ x) (hp0 : ¬ (255 : Int32) < c0) (hp1 : ¬ (255 : Int32) < c1) (hp2 : ¬ (255 : Int32) < c2) (hp3 : ¬ (255 : Int32) < c3) :
  MetFree l (⟨"java/lang/String", "<init>", "([CIILjava/lang/Void;)V"⟩ : MethodName) (head1 (Jvm.Cond.code (⟨"java/lang/String", "<init>", "([CIILjava/lang/Void;)V"⟩ : MethodName) jdk_42_method_149_code 6 none :: ws) (⟨2, 1, 4, 35⟩ : Room)) (fun aa_ UU_ => aa_ = #[.ref x, .ref b, .int 0, .int 4, .null] ∧ Z.Warmed39 UU_.vm ∧ UU_.heap = h0) (fun _ _ _ _ _ => True) (fun _ UU_ oo_ UV_ => ∃ vv_ LL_, oo_ = .returned vv_ ∧ Q_rmS4_4 Z zC vF hvF x b kC c0 c1 c2 c3 h0 n0 vv_ UV_.heap LL_ ∧ FrameEnd UU_ oo_ UV_ LL_ (⟨2, 1, 4, 35⟩ : Room).cells (⟨2, 1, 4, 35⟩ : Room).slots) := by
 refine MetFree.of_bodySF (plainFor_of_name own_pn_java_lang_String) hisR ?_
 intro p e s m args below meth c s₁ Bd hml0 hP hK
 obtain ⟨rfl, hZ, hh⟩ := hP
 have hx := Bd.exec
 have hby := Bd.bytes
 have hml : c.maxLocals = 6 := hml0
 have hown : s.vm.findClass "java/lang/String" = some m.cls := findClass_of_methodNamed Bd.named
 have hnm := (name_of_methodNamed Bd.named Bd.method).1
 have X0 : Stand p l e (⟨2, 1, 4, 35⟩ : Room) s m #[.ref x, .ref b, .int 0, .int 4, .null] below meth c s₁ [] 0 0 := Stand.of_body Bd
 have e0 : s₁.heap = h0 := by rw [← hh, Bd.state]; rfl
 have N0 := Fr.nil n0
 have hn0 : Z.heap.size = n0 := O0.1
 have KT0 : Keep h0 h0 [x] := Keep.refl _ _
 refine own_enter (Φ := fun oo_ UV_ => ∃ vv_ LL_, oo_ = .returned vv_ ∧ Q_rmS4_4 Z zC vF hvF x b kC c0 c1 c2 c3 h0 n0 vv_ UV_.heap LL_ ∧ FrameEnd s oo_ UV_ LL_ (⟨2, 1, 4, 35⟩ : Room).cells (⟨2, 1, 4, 35⟩ : Room).slots) (own_ef_rmS4_4 m x b (0 : Int32) (4 : Int32)) ?_
 have ne1 : b ≠ x := hbx
 refine own_by (T' := s₁) (g' := (mkF m 1 #[.val (.ref x), .val (.ref b), .val (.int 0), .val (.int 4), .val .null, .unset] [.ref x])) (fun _ kt_ => XS.aloadN X0.here hx rfl (hb hby own_d4_0) rfl rfl kt_) ?_
 obtain ⟨T2, X2, e2, st2⟩ := initO X0 hx hZ hown (ww hw 18 rfl) (ww hw 19 rfl) (ww hw 20 rfl) e0 (g := (mkF m 1 #[.val (.ref x), .val (.ref b), .val (.int 0), .val (.int 4), .val .null, .unset] [.ref x])) rfl (by rw [hml]; rfl) rfl (hb hby own_d4_1) (by decide) (W := 0) (by show 2 * 0 + _ ≤ _; exact Nat.le_of_eq rfl) (by decide)
 refine own_by (T' := T2) (g' := (mkF m 4 #[.val (.ref x), .val (.ref b), .val (.int 0), .val (.int 4), .val .null, .unset] [])) st2 ?_
 refine own_by (T' := T2) (g' := (mkF m 5 #[.val (.ref x), .val (.ref b), .val (.int 0), .val (.int 4), .val .null, .unset] [.int 4])) (fun _ kt_ => XS.iloadN X2.here hx rfl (hb hby own_d4_4) rfl kt_) ?_
 refine own_by (T' := T2) (g' := (mkF m 27 #[.val (.ref x), .val (.ref b), .val (.int 0), .val (.int 4), .val .null, .unset] [])) (fun _ kt_ => XS.ifYes X2.here hx rfl (pc0 := 5) (pc' := 27) rfl (hb hby own_d4_5) rfl (XT.i0_ne_t (by decide)) (by decide) (by decide) kt_) ?_
 have f3 := GS.1.ext O0.2
 obtain ⟨T4, X4, e4, st4⟩ := getS2 X2 hx hZ hown (host := "") (Or.inl (ww hw 43 rfl)) Via.refl e2 f3 (g := (mkF m 27 #[.val (.ref x), .val (.ref b), .val (.int 0), .val (.int 4), .val .null, .unset] [])) rfl (hb hby own_d4_27)
 refine own_by (T' := T4) (g' := (mkF m 30 #[.val (.ref x), .val (.ref b), .val (.int 0), .val (.int 4), .val .null, .unset] [.int zC])) st4 ?_
 refine own_by (T' := T4) (g' := (mkF m 33 #[.val (.ref x), .val (.ref b), .val (.int 0), .val (.int 4), .val .null, .unset] [])) (fun _ kt_ => XS.ifNo X4.here hx rfl (hb hby own_d4_30) rfl (XT.i0_eq_f GS.2.1) kt_) ?_
 refine own_by (T' := T4) (g' := (mkF m 34 #[.val (.ref x), .val (.ref b), .val (.int 0), .val (.int 4), .val .null, .unset] [.ref b])) (fun _ kt_ => XS.aloadN X4.here hx rfl (hb hby own_d4_33) rfl rfl kt_) ?_
 refine own_by (T' := T4) (g' := (mkF m 35 #[.val (.ref x), .val (.ref b), .val (.int 0), .val (.int 4), .val .null, .unset] [.int 0, .ref b])) (fun _ kt_ => XS.iloadN X4.here hx rfl (hb hby own_d4_34) rfl kt_) ?_
 refine own_by (T' := T4) (g' := (mkF m 36 #[.val (.ref x), .val (.ref b), .val (.int 0), .val (.int 4), .val .null, .unset] [.int 4, .int 0, .ref b])) (fun _ kt_ => XS.iloadN X4.here hx rfl (hb hby own_d4_35) rfl kt_) ?_
 obtain ⟨_, _, ⟨T5, L5, k5, n5⟩, -, X5, ⟨Lc5, hQ5, l5, y5, z5⟩, st5⟩ := Jvm.LawKit.callS X4 hx (y := (⟨"java/lang/StringUTF16", "compress", "([CII)[B"⟩ : MethodName)) hown (mvT hZ (ww hw 44 rfl)) (mvT hZ (ww hw 45 rfl)) (mvT hZ (ww hw 46 rfl)) (mvT hZ (ww hw 47 rfl)) (by decide) (backOf (W := 0) (rmC3_4 l Z a0 hw [] zC vF hvF GS b kC c0 c1 c2 c3 h0 n0 (by omega) O0 Vb hp0 hp1 hp2 hp3) hZ (ww hw 47 rfl) (ww hw 46 rfl) (by decide) (by decide)) (g := (mkF m 36 #[.val (.ref x), .val (.ref b), .val (.int 0), .val (.int 4), .val .null, .unset] [.int 4, .int 0, .ref b])) rfl (by rw [hml]; rfl) (argsL := [.ref b, .int 0, .int 4]) (rest := []) (lenOf own_pd_1 rfl) rfl (by show 2 * 0 + _ ≤ _; exact Nat.le_of_eq rfl) (hb hby own_d4_36) (fun _ _ => ⟨rfl, e4, (by decide : 0 + 1 ≤ _), (by decide : 0 + 4 ≤ _)⟩)
 dsimp only [Pt.U, Pt.locs, Pt.cells, Pt.slots] at X5 l5 y5 z5 st5 hQ5
 subst l5 y5 z5
 obtain ⟨d_6, kB_7, rfl, N5q, K5, p5_0, p5_1⟩ := hQ5
 have N8 := Fr.app N0 N5q
 have gd_6 : h0.size ≤ d_6 := p5_0
 have zzK5 : h0.size ≤ T5.heap.size := K5.1
 have oo9 : Old Z n0 T5.heap := O0.keep K5 all0
 have kt10 : Keep h0 T5.heap [x] := KT0.trans K5 all0
 refine own_by (T' := T5) (g' := (mkF m 39 #[.val (.ref x), .val (.ref b), .val (.int 0), .val (.int 4), .val .null, .unset] [.ref d_6])) st5 ?_
 refine own_by (T' := T5) (g' := (mkF m 41 #[.val (.ref x), .val (.ref b), .val (.int 0), .val (.int 4), .val .null, .val (.ref d_6)] [])) (fun _ kt_ => XS.astore X5.here hx rfl (hb hby own_d4_39) rfl rfl (l' := #[.val (.ref x), .val (.ref b), .val (.int 0), .val (.int 4), .val .null, .val (.ref d_6)]) rfl kt_) ?_
 refine own_by (T' := T5) (g' := (mkF m 42 #[.val (.ref x), .val (.ref b), .val (.int 0), .val (.int 4), .val .null, .val (.ref d_6)] [.ref x])) (fun _ kt_ => XS.aloadN X5.here hx rfl (hb hby own_d4_41) rfl rfl kt_) ?_
 refine own_by (T' := T5) (g' := (mkF m 44 #[.val (.ref x), .val (.ref b), .val (.int 0), .val (.int 4), .val .null, .val (.ref d_6)] [.ref d_6, .ref x])) (fun _ kt_ => XS.aload X5.here hx rfl (hb hby own_d4_42) rfl rfl kt_) ?_
 refine own_by (T' := T5) (g' := (mkF m 45 #[.val (.ref x), .val (.ref b), .val (.int 0), .val (.int 4), .val .null, .val (.ref d_6)] [.int 4, .ref d_6, .ref x])) (fun _ kt_ => XS.iloadN X5.here hx rfl (hb hby own_d4_44) rfl kt_) ?_
 obtain ⟨_, _, ⟨T11, L11, k11, n11⟩, -, X11, ⟨Lc11, hQ11, l11, y11, z11⟩, st11⟩ := Jvm.LawKit.callS X5 hx (y := (⟨"java/lang/StringUTF16", "coderFromArrayLen", "([BI)B"⟩ : MethodName)) hown (mvT hZ (ww hw 51 rfl)) (mvT hZ (ww hw 52 rfl)) (mvT hZ (ww hw 46 rfl)) (mvT hZ (ww hw 53 rfl)) (by decide) (backOf (W := 1) (rmCod_4 l Z a0 hw [] zC vF hvF GS d_6 kB_7 c0.toInt8.toInt32 c1.toInt8.toInt32 c2.toInt8.toInt32 c3.toInt8.toInt32 T5.heap n0 (by omega) oo9 p5_1) hZ (ww hw 53 rfl) (ww hw 46 rfl) (by decide) (by decide)) (g := (mkF m 45 #[.val (.ref x), .val (.ref b), .val (.int 0), .val (.int 4), .val .null, .val (.ref d_6)] [.int 4, .ref d_6, .ref x])) rfl (by rw [hml]; rfl) (argsL := [.ref d_6, .int 4]) (rest := [.ref x]) (lenOf own_pd_2 rfl) rfl (by show 2 * 0 + _ ≤ _; exact Nat.le_of_eq rfl) (hb hby own_d4_45) (fun _ _ => ⟨rfl, rfl, (by decide : 1 + 0 ≤ _), (by decide : 4 + 0 ≤ _)⟩)
 dsimp only [Pt.U, Pt.locs, Pt.cells, Pt.slots] at X11 l11 y11 z11 st11 hQ11
 subst l11 y11 z11
 obtain ⟨rfl, N11q, e11⟩ := hQ11
 have N12 := Fr.app N8 N11q
 refine own_by (T' := T11) (g' := (mkF m 48 #[.val (.ref x), .val (.ref b), .val (.int 0), .val (.int 4), .val .null, .val (.ref d_6)] [.int 0, .ref x])) st11 ?_
 have f13 : Exa Z T5.heap x "java/lang/String" := (E_x.keep K5)
 have f14 : Fld Z T5.heap x "java/lang/String" "coder" "B" (.int 0) := (Fc.keep K5 nin0)
 obtain ⟨T15, h15, X15, e15, W15, st15⟩ := putFN X11 hx hZ hown (ww hw 28 rfl) Via.refl e11 f14 f13 (Or.inr ⟨(ww hw 24 rfl), rfl, hnm⟩) (ww hw 8 rfl) (ty := .byte) (v' := (.int (0 : Int32).toInt8.toInt32)) (by decide) rfl (fits_nar_byte _) (g := (mkF m 48 #[.val (.ref x), .val (.ref b), .val (.int 0), .val (.int 4), .val .null, .val (.ref d_6)] [.int 0, .ref x])) rfl rfl (hb hby own_d4_48)
 have K16 : Keep T5.heap h15 [x] := Keep.of_wr W15
 have f17 : Fld Z T5.heap x "java/lang/String" "value" "[B" .null := (Fv.keep K5 nin0)
 have zzK16 : T5.heap.size ≤ h15.size := K16.1
 have oo18 : Old Z n0 h15 := oo9.keep K16 (allS (by omega : n0 ≤ x) all0)
 have kt19 : Keep h0 h15 [x] := kt10.trans K16 (allS (Or.inl (List.mem_of_getElem? (i := 0) rfl)) all0)
 have f20 : Fld Z h15 x "java/lang/String" "value" "[B" .null := f17.other W15 (Or.inr (slot_ne (Or.inr (ww hw 23 rfl)) (Or.inr (ww hw 24 rfl)) (by decide) (t := (.array .byte)) (t' := .byte) (by decide) (by decide)))
 have f21 : Fld Z h15 x "java/lang/String" "coder" "B" (.int (0 : Int32).toInt8.toInt32) := f14.same W15
 have N22 := Fr.snoc X15 N12 (by omega : n0 ≤ x)
 refine own_by (T' := T15) (g' := (mkF m 51 #[.val (.ref x), .val (.ref b), .val (.int 0), .val (.int 4), .val .null, .val (.ref d_6)] [])) st15 ?_
 refine own_by (T' := T15) (g' := (mkF m 52 #[.val (.ref x), .val (.ref b), .val (.int 0), .val (.int 4), .val .null, .val (.ref d_6)] [.ref x])) (fun _ kt_ => XS.aloadN X15.here hx rfl (hb hby own_d4_51) rfl rfl kt_) ?_
 refine own_by (T' := T15) (g' := (mkF m 54 #[.val (.ref x), .val (.ref b), .val (.int 0), .val (.int 4), .val .null, .val (.ref d_6)] [.ref d_6, .ref x])) (fun _ kt_ => XS.aload X15.here hx rfl (hb hby own_d4_52) rfl rfl kt_) ?_
 have f23 : Exa Z h15 x "java/lang/String" := (f13.keep K16)
 obtain ⟨T24, h24, X24, e24, W24, st24⟩ := putF X15 hx hZ hown (host := "") (Or.inl (ww hw 27 rfl)) Via.refl e15 f20 f23 (Or.inr ⟨(ww hw 23 rfl), rfl, hnm⟩) (ww hw 8 rfl) (ty := (.array .byte)) (by decide) rfl rfl (g := (mkF m 54 #[.val (.ref x), .val (.ref b), .val (.int 0), .val (.int 4), .val .null, .val (.ref d_6)] [.ref d_6, .ref x])) rfl rfl (hb hby own_d4_54)
 have K25 : Keep h15 h24 [x] := Keep.of_wr W24
 have zzK25 : h15.size ≤ h24.size := K25.1
 have oo26 : Old Z n0 h24 := oo18.keep K25 (allS (by omega : n0 ≤ x) all0)
 have kt27 : Keep h0 h24 [x] := kt19.trans K25 (allS (Or.inl (List.mem_of_getElem? (i := 0) rfl)) all0)
 have f28 : Fld Z h24 x "java/lang/String" "value" "[B" (.ref d_6) := f20.same W24
 have f29 : Fld Z h24 x "java/lang/String" "coder" "B" (.int (0 : Int32).toInt8.toInt32) := f21.other W24 (Or.inr (slot_ne (Or.inr (ww hw 24 rfl)) (Or.inr (ww hw 23 rfl)) (by decide) (t := .byte) (t' := (.array .byte)) (by decide) (by decide)))
 have N30 := Fr.snoc X24 N22 (by omega : n0 ≤ x)
 refine own_by (T' := T24) (g' := (mkF m 57 #[.val (.ref x), .val (.ref b), .val (.int 0), .val (.int 4), .val .null, .val (.ref d_6)] [])) st24 ?_
 have la31 : @LT.lt Nat instLTNat d_6 T5.heap.size := p5_1.lt
 have hv32 : ((.int (0 : Int32).toInt8.toInt32) : Value) = (.int 0) := rfl
 have la33 : @LT.lt Nat instLTNat x h0.size := E_x.lt
 have ne34 : @Ne Nat d_6 x := by omega
 have f35 : Arv Z h24 d_6 kB_7 .byte (4 : Int32) [(.int c0.toInt8.toInt32), (.int c1.toInt8.toInt32), (.int c2.toInt8.toInt32), (.int c3.toInt8.toInt32)] (.int 0) := ((p5_1.keep K16 (ninS ne34 nin0)).keep K25 (ninS ne34 nin0))
 obtain ⟨fs36, hr36, hrun36, hended36, hW36, hsame36⟩ := X24.leave (v := none) (fun _ => rfl)
 refine ⟨_, _, X24.returnOut hx Bd.returns (hb hby own_d4_57) hr36, hrun36, hended36, _, _, rfl, ?_, ⟨_, rfl⟩, hW36, hsame36.mono (by decide) (by decide)⟩
 show Q_rmS4_4 Z zC vF hvF x b kC c0 c1 c2 c3 h0 n0 _ T24.heap _
 rw [e24]
 exact ⟨d_6, kB_7, rfl, N30, kt27, (by omega), f28, (hv32 ▸ f29), f35⟩
theorem own_ef_rmS1_4 (m : MethodId) (x0 : Addr) (x1 : Addr) : entryFrame m #[.ref x0, .ref x1] 2 = mkF m 0 #[.val (.ref x0), .val (.ref x1)] [] := by first | (simp [entryFrame, mkF, argsToLocals, Value.category]; done) | rfl
def Q_rmS1_4 (Z : State) (zC : Int32) (vF : Value) (hvF : vF.isRef = true) (x : Addr) (b : Addr) (kC : ClassId) (c0 : Int32) (c1 : Int32) (c2 : Int32) (c3 : Int32) (h0 : Heap) (n0 : Nat) (vv_ : Option Value) (hh_ : Heap) (LL_ : List Loc) : Prop := ∃ t : Addr, ∃ kB : ClassId, vv_ = none ∧ Fr n0 LL_ ∧ Keep h0 hh_ [x] ∧ h0.size ≤ t ∧ Fld Z hh_ x "java/lang/String" "value" "[B" (.ref t) ∧ Fld Z hh_ x "java/lang/String" "coder" "B" (.int 0) ∧ Arv Z hh_ t kB .byte (4 : Int32) [(.int c0.toInt8.toInt32), (.int c1.toInt8.toInt32), (.int c2.toInt8.toInt32), (.int c3.toInt8.toInt32)] (.int 0)
set_option maxRecDepth 65536 in
set_option maxHeartbeats 40000000 in
theorem rmS1_4 (l : Launch) (Z : State) (a0 : Array Value) (hw : ∀ d ∈ tables_1, d.before a0 Z = true) (ws : List Jvm.Cond) (zC : Int32) (vF : Value) (hvF : vF.isRef = true) (GS : Glob Z zC vF hvF) (x : Addr) (b : Addr) (kC : ClassId) (c0 : Int32) (c1 : Int32) (c2 : Int32) (c3 : Int32) (h0 : Heap) (n0 : Nat) (Z0 : n0 ≤ h0.size) (O0 : Old Z n0 h0) (E_x : Exa Z h0 x "java/lang/String") (g_x : n0 ≤ x) (Fv : Fld Z h0 x "java/lang/String" "value" "[B" .null) (Fc : Fld Z h0 x "java/lang/String" "coder" "B" (.int 0)) (Vb : Arv Z h0 b kC .char (4 : Int32) [.int c0, .int c1, .int c2, .int c3] (.int 0)) (hbx : b ≠ x) (hp0 : ¬ (255 : Int32) < c0) (hp1 : ¬ (255 : Int32) < c1) (hp2 : ¬ (255 : Int32) < c2) (hp3 : ¬ (255 : Int32) < c3) :
  MetFree l (⟨"java/lang/String", "<init>", "([C)V"⟩ : MethodName) (head1 (Jvm.Cond.code (⟨"java/lang/String", "<init>", "([C)V"⟩ : MethodName) jdk_42_method_3_code 2 none :: ws) (⟨3, 1, 4, 52⟩ : Room)) (fun aa_ UU_ => aa_ = #[.ref x, .ref b] ∧ Z.Warmed39 UU_.vm ∧ UU_.heap = h0) (fun _ _ _ _ _ => True) (fun _ UU_ oo_ UV_ => ∃ vv_ LL_, oo_ = .returned vv_ ∧ Q_rmS1_4 Z zC vF hvF x b kC c0 c1 c2 c3 h0 n0 vv_ UV_.heap LL_ ∧ FrameEnd UU_ oo_ UV_ LL_ (⟨3, 1, 4, 52⟩ : Room).cells (⟨3, 1, 4, 52⟩ : Room).slots) := by
 refine MetFree.of_bodySF (plainFor_of_name own_pn_java_lang_String) hisR ?_
 intro p e s m args below meth c s₁ Bd hml0 hP hK
 obtain ⟨rfl, hZ, hh⟩ := hP
 have hx := Bd.exec
 have hby := Bd.bytes
 have hml : c.maxLocals = 2 := hml0
 have hown : s.vm.findClass "java/lang/String" = some m.cls := findClass_of_methodNamed Bd.named
 have hnm := (name_of_methodNamed Bd.named Bd.method).1
 have X0 : Stand p l e (⟨3, 1, 4, 52⟩ : Room) s m #[.ref x, .ref b] below meth c s₁ [] 0 0 := Stand.of_body Bd
 have e0 : s₁.heap = h0 := by rw [← hh, Bd.state]; rfl
 have N0 := Fr.nil n0
 have hn0 : Z.heap.size = n0 := O0.1
 have KT0 : Keep h0 h0 [x] := Keep.refl _ _
 refine own_enter (Φ := fun oo_ UV_ => ∃ vv_ LL_, oo_ = .returned vv_ ∧ Q_rmS1_4 Z zC vF hvF x b kC c0 c1 c2 c3 h0 n0 vv_ UV_.heap LL_ ∧ FrameEnd s oo_ UV_ LL_ (⟨3, 1, 4, 52⟩ : Room).cells (⟨3, 1, 4, 52⟩ : Room).slots) (own_ef_rmS1_4 m x b) ?_
 have ne1 : b ≠ x := hbx
 refine own_by (T' := s₁) (g' := (mkF m 1 #[.val (.ref x), .val (.ref b)] [.ref x])) (fun _ kt_ => XS.aloadN X0.here hx rfl (hb hby own_d3_0) rfl rfl kt_) ?_
 refine own_by (T' := s₁) (g' := (mkF m 2 #[.val (.ref x), .val (.ref b)] [.ref b, .ref x])) (fun _ kt_ => XS.aloadN X0.here hx rfl (hb hby own_d3_1) rfl rfl kt_) ?_
 refine own_by (T' := s₁) (g' := (mkF m 3 #[.val (.ref x), .val (.ref b)] [.int 0, .ref b, .ref x])) (fun _ kt_ => XS.iconst X0.here hx rfl (hb hby own_d3_2) kt_) ?_
 refine own_by (T' := s₁) (g' := (mkF m 4 #[.val (.ref x), .val (.ref b)] [.ref b, .int 0, .ref b, .ref x])) (fun _ kt_ => XS.aloadN X0.here hx rfl (hb hby own_d3_3) rfl rfl kt_) ?_
 obtain ⟨cl2, Ar2, q2, S2, M2, H2, G2⟩ := id Vb
 refine own_by (T' := s₁) (g' := (mkF m 5 #[.val (.ref x), .val (.ref b)] [.int 4, .int 0, .ref b, .ref x])) (fun _ kt_ => X0.arraylength hx (by rw [e0]; exact Ar2.1) (State.isArrayOf_alike hZ.alike Ar2.2.1) (g := (mkF m 4 #[.val (.ref x), .val (.ref b)] [.ref b, .int 0, .ref b, .ref x])) rfl rfl (hb hby own_d3_4) _ (by rw [len_of S2 M2]; exact kt_)) ?_
 refine own_by (T' := s₁) (g' := (mkF m 6 #[.val (.ref x), .val (.ref b)] [.null, .int 4, .int 0, .ref b, .ref x])) (fun _ kt_ => XS.aconstNull X0.here hx rfl (hb hby own_d3_5) kt_) ?_
 have la3 : @LT.lt Nat instLTNat x h0.size := E_x.lt
 obtain ⟨_, _, ⟨T4, L4, k4, n4⟩, -, X4, ⟨Lc4, hQ4, l4, y4, z4⟩, st4⟩ := X0.specialBack hx (y := (⟨"java/lang/String", "<init>", "([CIILjava/lang/Void;)V"⟩ : MethodName)) rfl hown (mvT hZ (ww hw 14 rfl)) (mvT hZ (ww hw 15 rfl)) (mvT hZ (ww hw 17 rfl)) (by decide) (backOf (W := 0) (rmS4_4 l Z a0 hw [] zC vF hvF GS x b kC c0 c1 c2 c3 h0 n0 (by omega) O0 E_x (by omega) Fv Fc Vb hbx hp0 hp1 hp2 hp3) hZ (ww hw 17 rfl) (ww hw 9 rfl) (by decide) (by decide)) (g := (mkF m 6 #[.val (.ref x), .val (.ref b)] [.null, .int 4, .int 0, .ref b, .ref x])) rfl (by rw [hml]; rfl) (Steps.refl _) (a := x) (argsL := [.ref b, .int 0, .int 4, .null]) (rest := []) (lenOf own_pd_3 rfl) rfl (by show 2 * 0 + _ ≤ _; exact Nat.le_of_eq rfl) (hb hby own_d3_6) (fun _ _ => ⟨rfl, e0, (by decide : 0 + 1 ≤ _), (by decide : 0 + 4 ≤ _)⟩)
 dsimp only [Pt.U, Pt.locs, Pt.cells, Pt.slots] at X4 l4 y4 z4 st4 hQ4
 subst l4 y4 z4
 obtain ⟨t_5, kB_6, rfl, N4q, K4, p4_0, p4_1, p4_2, p4_3⟩ := hQ4
 have N7 := Fr.app N0 N4q
 have gt_5 : h0.size ≤ t_5 := p4_0
 have zzK4 : h0.size ≤ T4.heap.size := K4.1
 have oo8 : Old Z n0 T4.heap := O0.keep K4 (allS (by omega : n0 ≤ x) all0)
 have kt9 : Keep h0 T4.heap [x] := KT0.trans K4 (allS (Or.inl (List.mem_of_getElem? (i := 0) rfl)) all0)
 refine own_by (T' := T4) (g' := (mkF m 9 #[.val (.ref x), .val (.ref b)] [])) (fun _ kt_ => st4.trans kt_) ?_
 have la10 : @LT.lt Nat instLTNat t_5 T4.heap.size := p4_3.lt
 obtain ⟨fs11, hr11, hrun11, hended11, hW11, hsame11⟩ := X4.leave (v := none) (fun _ => rfl)
 refine ⟨_, _, X4.returnOut hx Bd.returns (hb hby own_d3_9) hr11, hrun11, hended11, _, _, rfl, ?_, ⟨_, rfl⟩, hW11, hsame11.mono (by decide) (by decide)⟩
 show Q_rmS1_4 Z zC vF hvF x b kC c0 c1 c2 c3 h0 n0 _ T4.heap _
 exact ⟨t_5, kB_6, rfl, N7, kt9, (by omega), p4_1, p4_2, p4_3⟩
theorem own_d4_8 : decode jdk_42_method_149_code 8 = .ok (.aload_n 0, 1) := by decide +kernel
theorem own_d4_9 : decode jdk_42_method_149_code 9 = .ok (.ldc 7, 2) := by decide +kernel
theorem own_d4_11 : decode jdk_42_method_149_code 11 = .ok (.getfield 9, 3) := by decide +kernel
theorem own_d4_14 : decode jdk_42_method_149_code 14 = .ok (.putfield 9, 3) := by decide +kernel
theorem own_d4_17 : decode jdk_42_method_149_code 17 = .ok (.aload_n 0, 1) := by decide +kernel
theorem own_d4_18 : decode jdk_42_method_149_code 18 = .ok (.ldc 7, 2) := by decide +kernel
theorem own_d4_20 : decode jdk_42_method_149_code 20 = .ok (.getfield 15, 3) := by decide +kernel
theorem own_d4_23 : decode jdk_42_method_149_code 23 = .ok (.putfield 15, 3) := by decide +kernel
theorem own_d4_26 : decode jdk_42_method_149_code 26 = .ok (.return_, 1) := by decide +kernel
theorem own_ef_rmS4_0 (m : MethodId) (x0 : Addr) (x1 : Addr) (x2 : Int32) (x3 : Int32) : entryFrame m #[.ref x0, .ref x1, .int x2, .int x3, .null] 6 = mkF m 0 #[.val (.ref x0), .val (.ref x1), .val (.int x2), .val (.int x3), .val .null, .unset] [] := by first | (simp [entryFrame, mkF, argsToLocals, Value.category]; done) | rfl
def Q_rmS4_0 (Z : State) (zC : Int32) (vF : Value) (hvF : vF.isRef = true) (x : Addr) (b : Addr) (h0 : Heap) (n0 : Nat) (vv_ : Option Value) (hh_ : Heap) (LL_ : List Loc) : Prop := ∃ t : Addr, ∃ kB : ClassId, vv_ = none ∧ Fr n0 LL_ ∧ Keep h0 hh_ [x] ∧ Fld Z hh_ x "java/lang/String" "value" "[B" (.ref t) ∧ Fld Z hh_ x "java/lang/String" "coder" "B" (.int 0) ∧ Arv Z hh_ t kB .byte (0 : Int32) [] (.int 0)
set_option maxRecDepth 65536 in
set_option maxHeartbeats 40000000 in
theorem rmS4_0 (l : Launch) (Z : State) (a0 : Array Value) (hw : ∀ d ∈ tables_1, d.before a0 Z = true) (ws : List Jvm.Cond) (zC : Int32) (vF : Value) (hvF : vF.isRef = true) (GS : Glob Z zC vF hvF) (x : Addr) (b : Addr) (h0 : Heap) (n0 : Nat) (Z0 : n0 ≤ h0.size) (O0 : Old Z n0 h0) (E_x : Exa Z h0 x "java/lang/String") (g_x : n0 ≤ x) (Fv : Fld Z h0 x "java/lang/String" "value" "[B" .null) (Fc : Fld Z h0 x "java/lang/String" "coder" "B" (.int 0)) :
  MetFree l (⟨"java/lang/String", "<init>", "([CIILjava/lang/Void;)V"⟩ : MethodName) (head1 (Jvm.Cond.code (⟨"java/lang/String", "<init>", "([CIILjava/lang/Void;)V"⟩ : MethodName) jdk_42_method_149_code 6 none :: ws) (⟨1, 2, 5, 12⟩ : Room)) (fun aa_ UU_ => aa_ = #[.ref x, .ref b, .int 0, .int 0, .null] ∧ Z.Warmed39 UU_.vm ∧ UU_.heap = h0 ∧ IB Z UU_.vm []) (fun _ _ _ _ _ => True) (fun _ UU_ oo_ UV_ => ∃ vv_ LL_, oo_ = .returned vv_ ∧ Q_rmS4_0 Z zC vF hvF x b h0 n0 vv_ UV_.heap LL_ ∧ ReturnedEndW UU_ oo_ UV_ LL_ (⟨1, 2, 5, 12⟩ : Room).cells (⟨1, 2, 5, 12⟩ : Room).slots) := by
 refine MetFree.of_bodySF (plainFor_of_name own_pn_java_lang_String) hisR ?_
 intro p e s m args below meth c s₁ Bd hml0 hP hK
 obtain ⟨rfl, hZ, hh, hI⟩ := hP
 have hx := Bd.exec
 have hby := Bd.bytes
 have hml : c.maxLocals = 6 := hml0
 have hown : s.vm.findClass "java/lang/String" = some m.cls := findClass_of_methodNamed Bd.named
 have hnm := (name_of_methodNamed Bd.named Bd.method).1
 have X0 : Stand p l e (⟨1, 2, 5, 12⟩ : Room) (s.setVm s.vm) m #[.ref x, .ref b, .int 0, .int 0, .null] below meth c s₁ [] 0 0 := Stand.of_body Bd
 have e0 : s₁.heap = h0 := by rw [← hh, Bd.state]; rfl
 have N0 := Fr.nil n0
 have hn0 : Z.heap.size = n0 := O0.1
 have KT0 : Keep h0 h0 [x] := Keep.refl _ _
 have hS0 : s.Since s.vm h0.size := (State.WarmedH.refl s).since _
 refine own_enter (Φ := fun oo_ UV_ => ∃ vv_ LL_, oo_ = .returned vv_ ∧ Q_rmS4_0 Z zC vF hvF x b h0 n0 vv_ UV_.heap LL_ ∧ ReturnedEndW s oo_ UV_ LL_ (⟨1, 2, 5, 12⟩ : Room).cells (⟨1, 2, 5, 12⟩ : Room).slots) (own_ef_rmS4_0 m x b (0 : Int32) (0 : Int32)) ?_
 refine own_by (T' := s₁) (g' := (mkF m 1 #[.val (.ref x), .val (.ref b), .val (.int 0), .val (.int 0), .val .null, .unset] [.ref x])) (fun _ kt_ => XS.aloadN X0.here hx rfl (hb hby own_d4_0) rfl rfl kt_) ?_
 obtain ⟨T1, X1, e1, st1⟩ := initO X0 hx hZ hown (ww hw 18 rfl) (ww hw 19 rfl) (ww hw 20 rfl) e0 (g := (mkF m 1 #[.val (.ref x), .val (.ref b), .val (.int 0), .val (.int 0), .val .null, .unset] [.ref x])) rfl (by rw [hml]; rfl) rfl (hb hby own_d4_1) (by decide) (W := 0) (by show 2 * 0 + _ ≤ _; exact Nat.le_of_eq rfl) (by decide)
 refine own_by (T' := T1) (g' := (mkF m 4 #[.val (.ref x), .val (.ref b), .val (.int 0), .val (.int 0), .val .null, .unset] [])) st1 ?_
 refine own_by (T' := T1) (g' := (mkF m 5 #[.val (.ref x), .val (.ref b), .val (.int 0), .val (.int 0), .val .null, .unset] [.int 0])) (fun _ kt_ => XS.iloadN X1.here hx rfl (hb hby own_d4_4) rfl kt_) ?_
 refine own_by (T' := T1) (g' := (mkF m 8 #[.val (.ref x), .val (.ref b), .val (.int 0), .val (.int 0), .val .null, .unset] [])) (fun _ kt_ => XS.ifNo X1.here hx rfl (hb hby own_d4_5) rfl (XT.i0_ne_f (by decide)) kt_) ?_
 refine own_by (T' := T1) (g' := (mkF m 9 #[.val (.ref x), .val (.ref b), .val (.int 0), .val (.int 0), .val .null, .unset] [.ref x])) (fun _ kt_ => XS.aloadN X1.here hx rfl (hb hby own_d4_8) rfl rfl kt_) ?_
 obtain ⟨a2, T2, h2, k2, b2, kb2, X2, e2, E2, hS2, hk2, hZ2, hown2, Ea2, Fc2, Fv2, Ar2, la2, lb2, -, Lt2, st2⟩ := ldcSVL X1 hx hZ hown (ww hw 21 rfl) (fun d hd => hw d ((by decide +kernel : ∀ d ∈ Bundle.stringAtoms, d ∈ tables_1) d hd)) e1 hS0 (by omega) (Fr.nil _) (by rw [hh]; exact O0.2.2) hI (by simp) GS.2.2.2.1 (show Jvm.Lit.compactW.before a0 Z = true from GS.2.2.2.2) (vs := []) (z := (0 : Int32)) ⟨by decide, rfl⟩ (by decide) rfl (g := (mkF m 9 #[.val (.ref x), .val (.ref b), .val (.int 0), .val (.int 0), .val .null, .unset] [.ref x])) rfl (hb hby own_d4_9) (n := 1) (by decide) (by decide) (by decide) (by decide)
 have K3 : Keep h0 h2 [] := own_kext E2
 have zzK3 : h0.size ≤ h2.size := K3.1
 have oo4 : Old Z n0 h2 := O0.keep K3 all0
 have kt5 : Keep h0 h2 [x] := KT0.trans K3 all0
 have f6 : Fld Z h2 x "java/lang/String" "value" "[B" .null := (Fv.keep K3 nin0)
 have f7 : Exa Z h2 x "java/lang/String" := (E_x.keep K3)
 have ne8 : a2 ≠ x := Fv2.ne f6 (by simp)
 have ne9 : b2 ≠ x := (Exa.neArv f7 Ar2 (ww hw 8 rfl)).symm
 refine own_by (T' := T2) (g' := (mkF m 11 #[.val (.ref x), .val (.ref b), .val (.int 0), .val (.int 0), .val .null, .unset] [.ref a2, .ref x])) st2 ?_
 obtain ⟨T10, X10, e10, st10⟩ := getF X2 hx hZ2 hown2 (host := "") (Or.inl (ww hw 27 rfl)) Via.refl e2 Fv2 (g := (mkF m 11 #[.val (.ref x), .val (.ref b), .val (.int 0), .val (.int 0), .val .null, .unset] [.ref a2, .ref x])) rfl rfl (hb hby own_d4_11)
 refine own_by (T' := T10) (g' := (mkF m 14 #[.val (.ref x), .val (.ref b), .val (.int 0), .val (.int 0), .val .null, .unset] [.ref b2, .ref x])) st10 ?_
 obtain ⟨T11, h11, X11, e11, W11, st11⟩ := putF X10 hx hZ2 hown2 (host := "") (Or.inl (ww hw 27 rfl)) Via.refl e10 f6 f7 (Or.inr ⟨(ww hw 23 rfl), rfl, hnm⟩) (ww hw 8 rfl) (ty := (.array .byte)) (by decide) rfl rfl (g := (mkF m 14 #[.val (.ref x), .val (.ref b), .val (.int 0), .val (.int 0), .val .null, .unset] [.ref b2, .ref x])) rfl rfl (hb hby own_d4_14)
 have K12 : Keep h2 h11 [x] := Keep.of_wr W11
 have f13 : Fld Z h2 x "java/lang/String" "coder" "B" (.int 0) := (Fc.keep K3 nin0)
 have zzK12 : h2.size ≤ h11.size := K12.1
 have oo14 : Old Z n0 h11 := oo4.keep K12 (allS (by omega : n0 ≤ x) all0)
 have kt15 : Keep h0 h11 [x] := kt5.trans K12 (allS (Or.inl (List.mem_of_getElem? (i := 0) rfl)) all0)
 have f16 : Fld Z h11 x "java/lang/String" "value" "[B" (.ref b2) := f6.same W11
 have f17 : Fld Z h11 x "java/lang/String" "coder" "B" (.int 0) := f13.other W11 (Or.inr (slot_ne (Or.inr (ww hw 24 rfl)) (Or.inr (ww hw 23 rfl)) (by decide) (t := .byte) (t' := (.array .byte)) (by decide) (by decide)))
 have N18 := Fr.snoc X11 N0 (by omega : n0 ≤ x)
 refine own_by (T' := T11) (g' := (mkF m 17 #[.val (.ref x), .val (.ref b), .val (.int 0), .val (.int 0), .val .null, .unset] [])) st11 ?_
 refine own_by (T' := T11) (g' := (mkF m 18 #[.val (.ref x), .val (.ref b), .val (.int 0), .val (.int 0), .val .null, .unset] [.ref x])) (fun _ kt_ => XS.aloadN X11.here hx rfl (hb hby own_d4_17) rfl rfl kt_) ?_
 refine own_by (T' := T11) (g' := (mkF m 20 #[.val (.ref x), .val (.ref b), .val (.int 0), .val (.int 0), .val .null, .unset] [.ref a2, .ref x])) (fun _ kt_ => ldcAgain X11 hx hZ2 hown2 (ww hw 21 rfl) Lt2 (g := (mkF m 18 #[.val (.ref x), .val (.ref b), .val (.int 0), .val (.int 0), .val .null, .unset] [.ref x])) rfl (hb hby own_d4_18) _ kt_) ?_
 have f19 : Fld Z h11 a2 "java/lang/String" "coder" "B" (.int 0) := (Fc2.keep K12 (ninS ne8 nin0))
 obtain ⟨T20, X20, e20, st20⟩ := getF X11 hx hZ2 hown2 (host := "") (Or.inl (ww hw 28 rfl)) Via.refl e11 f19 (g := (mkF m 20 #[.val (.ref x), .val (.ref b), .val (.int 0), .val (.int 0), .val .null, .unset] [.ref a2, .ref x])) rfl rfl (hb hby own_d4_20)
 refine own_by (T' := T20) (g' := (mkF m 23 #[.val (.ref x), .val (.ref b), .val (.int 0), .val (.int 0), .val .null, .unset] [.int 0, .ref x])) st20 ?_
 have f21 : Exa Z h11 x "java/lang/String" := (f7.keep K12)
 obtain ⟨T22, h22, X22, e22, W22, st22⟩ := putFN X20 hx hZ2 hown2 (ww hw 28 rfl) Via.refl e20 f17 f21 (Or.inr ⟨(ww hw 24 rfl), rfl, hnm⟩) (ww hw 8 rfl) (ty := .byte) (v' := (.int (0 : Int32).toInt8.toInt32)) (by decide) rfl (fits_nar_byte _) (g := (mkF m 23 #[.val (.ref x), .val (.ref b), .val (.int 0), .val (.int 0), .val .null, .unset] [.int 0, .ref x])) rfl rfl (hb hby own_d4_23)
 have K23 : Keep h11 h22 [x] := Keep.of_wr W22
 have zzK23 : h11.size ≤ h22.size := K23.1
 have oo24 : Old Z n0 h22 := oo14.keep K23 (allS (by omega : n0 ≤ x) all0)
 have kt25 : Keep h0 h22 [x] := kt15.trans K23 (allS (Or.inl (List.mem_of_getElem? (i := 0) rfl)) all0)
 have f26 : Fld Z h22 x "java/lang/String" "value" "[B" (.ref b2) := f16.other W22 (Or.inr (slot_ne (Or.inr (ww hw 23 rfl)) (Or.inr (ww hw 24 rfl)) (by decide) (t := (.array .byte)) (t' := .byte) (by decide) (by decide)))
 have f27 : Fld Z h22 x "java/lang/String" "coder" "B" (.int (0 : Int32).toInt8.toInt32) := f17.same W22
 have N28 := Fr.snoc X22 N18 (by omega : n0 ≤ x)
 refine own_by (T' := T22) (g' := (mkF m 26 #[.val (.ref x), .val (.ref b), .val (.int 0), .val (.int 0), .val .null, .unset] [])) st22 ?_
 have hv29 : ((.int (0 : Int32).toInt8.toInt32) : Value) = (.int 0) := rfl
 have f30 : Arv Z h22 b2 kb2 .byte (0 : Int32) [] (.int 0) := ((Ar2.keep K12 (ninS ne9 nin0)).keep K23 (ninS ne9 nin0))
 obtain ⟨fs31, hr31, hrun31, hended31, hW31⟩ := X22.leaveW hS2 (by rw [e22]; omega) (v := none) (fun _ => rfl)
 refine ⟨_, _, X22.returnOut hx Bd.returns (hb hby own_d4_26) hr31, hrun31, hended31, _, _, rfl, ?_, hW31.1, hW31.2.1, hW31.2.2.1, hW31.2.2.2.mono (by decide) (by decide)⟩
 show Q_rmS4_0 Z zC vF hvF x b h0 n0 _ T22.heap _
 rw [e22]
 exact ⟨b2, kb2, rfl, N28, kt25, f26, (hv29 ▸ f27), f30⟩
theorem own_ef_rmS1_0 (m : MethodId) (x0 : Addr) (x1 : Addr) : entryFrame m #[.ref x0, .ref x1] 2 = mkF m 0 #[.val (.ref x0), .val (.ref x1)] [] := by first | (simp [entryFrame, mkF, argsToLocals, Value.category]; done) | rfl
def Q_rmS1_0 (Z : State) (zC : Int32) (vF : Value) (hvF : vF.isRef = true) (x : Addr) (b : Addr) (kC : ClassId) (h0 : Heap) (n0 : Nat) (vv_ : Option Value) (hh_ : Heap) (LL_ : List Loc) : Prop := ∃ t : Addr, ∃ kB : ClassId, vv_ = none ∧ Fr n0 LL_ ∧ Keep h0 hh_ [x] ∧ Fld Z hh_ x "java/lang/String" "value" "[B" (.ref t) ∧ Fld Z hh_ x "java/lang/String" "coder" "B" (.int 0) ∧ Arv Z hh_ t kB .byte (0 : Int32) [] (.int 0)
set_option maxRecDepth 65536 in
set_option maxHeartbeats 40000000 in
theorem rmS1_0 (l : Launch) (Z : State) (a0 : Array Value) (hw : ∀ d ∈ tables_1, d.before a0 Z = true) (ws : List Jvm.Cond) (zC : Int32) (vF : Value) (hvF : vF.isRef = true) (GS : Glob Z zC vF hvF) (x : Addr) (b : Addr) (kC : ClassId) (h0 : Heap) (n0 : Nat) (Z0 : n0 ≤ h0.size) (O0 : Old Z n0 h0) (E_x : Exa Z h0 x "java/lang/String") (g_x : n0 ≤ x) (Fv : Fld Z h0 x "java/lang/String" "value" "[B" .null) (Fc : Fld Z h0 x "java/lang/String" "coder" "B" (.int 0)) (Vb : Arv Z h0 b kC .char (0 : Int32) [] (.int 0)) :
  MetFree l (⟨"java/lang/String", "<init>", "([C)V"⟩ : MethodName) (head1 (Jvm.Cond.code (⟨"java/lang/String", "<init>", "([C)V"⟩ : MethodName) jdk_42_method_3_code 2 none :: ws) (⟨2, 2, 5, 29⟩ : Room)) (fun aa_ UU_ => aa_ = #[.ref x, .ref b] ∧ Z.Warmed39 UU_.vm ∧ UU_.heap = h0 ∧ IB Z UU_.vm []) (fun _ _ _ _ _ => True) (fun _ UU_ oo_ UV_ => ∃ vv_ LL_, oo_ = .returned vv_ ∧ Q_rmS1_0 Z zC vF hvF x b kC h0 n0 vv_ UV_.heap LL_ ∧ ReturnedEndW UU_ oo_ UV_ LL_ (⟨2, 2, 5, 29⟩ : Room).cells (⟨2, 2, 5, 29⟩ : Room).slots) := by
 refine MetFree.of_bodySF (plainFor_of_name own_pn_java_lang_String) hisR ?_
 intro p e s m args below meth c s₁ Bd hml0 hP hK
 obtain ⟨rfl, hZ, hh, hI⟩ := hP
 have hx := Bd.exec
 have hby := Bd.bytes
 have hml : c.maxLocals = 2 := hml0
 have hown : s.vm.findClass "java/lang/String" = some m.cls := findClass_of_methodNamed Bd.named
 have hnm := (name_of_methodNamed Bd.named Bd.method).1
 have X0 : Stand p l e (⟨2, 2, 5, 29⟩ : Room) (s.setVm s.vm) m #[.ref x, .ref b] below meth c s₁ [] 0 0 := Stand.of_body Bd
 have e0 : s₁.heap = h0 := by rw [← hh, Bd.state]; rfl
 have N0 := Fr.nil n0
 have hn0 : Z.heap.size = n0 := O0.1
 have KT0 : Keep h0 h0 [x] := Keep.refl _ _
 have hS0 : s.Since s.vm h0.size := (State.WarmedH.refl s).since _
 refine own_enter (Φ := fun oo_ UV_ => ∃ vv_ LL_, oo_ = .returned vv_ ∧ Q_rmS1_0 Z zC vF hvF x b kC h0 n0 vv_ UV_.heap LL_ ∧ ReturnedEndW s oo_ UV_ LL_ (⟨2, 2, 5, 29⟩ : Room).cells (⟨2, 2, 5, 29⟩ : Room).slots) (own_ef_rmS1_0 m x b) ?_
 refine own_by (T' := s₁) (g' := (mkF m 1 #[.val (.ref x), .val (.ref b)] [.ref x])) (fun _ kt_ => XS.aloadN X0.here hx rfl (hb hby own_d3_0) rfl rfl kt_) ?_
 refine own_by (T' := s₁) (g' := (mkF m 2 #[.val (.ref x), .val (.ref b)] [.ref b, .ref x])) (fun _ kt_ => XS.aloadN X0.here hx rfl (hb hby own_d3_1) rfl rfl kt_) ?_
 refine own_by (T' := s₁) (g' := (mkF m 3 #[.val (.ref x), .val (.ref b)] [.int 0, .ref b, .ref x])) (fun _ kt_ => XS.iconst X0.here hx rfl (hb hby own_d3_2) kt_) ?_
 refine own_by (T' := s₁) (g' := (mkF m 4 #[.val (.ref x), .val (.ref b)] [.ref b, .int 0, .ref b, .ref x])) (fun _ kt_ => XS.aloadN X0.here hx rfl (hb hby own_d3_3) rfl rfl kt_) ?_
 obtain ⟨cl1, Ar1, q1, S1, M1, H1, G1⟩ := id Vb
 refine own_by (T' := s₁) (g' := (mkF m 5 #[.val (.ref x), .val (.ref b)] [.int 0, .int 0, .ref b, .ref x])) (fun _ kt_ => X0.arraylength hx (by rw [e0]; exact Ar1.1) (State.isArrayOf_alike hZ.alike Ar1.2.1) (g := (mkF m 4 #[.val (.ref x), .val (.ref b)] [.ref b, .int 0, .ref b, .ref x])) rfl rfl (hb hby own_d3_4) _ (by rw [len_of S1 M1]; exact kt_)) ?_
 refine own_by (T' := s₁) (g' := (mkF m 6 #[.val (.ref x), .val (.ref b)] [.null, .int 0, .int 0, .ref b, .ref x])) (fun _ kt_ => XS.aconstNull X0.here hx rfl (hb hby own_d3_5) kt_) ?_
 have la2 : @LT.lt Nat instLTNat x h0.size := E_x.lt
 obtain ⟨_, _, ⟨T3, L3, k3, n3⟩, -, Xw3, hSw3, hGw3, ⟨Lc3, hQ3, l3, y3, z3⟩, st3⟩ := X0.specialBackS hx (y := (⟨"java/lang/String", "<init>", "([CIILjava/lang/Void;)V"⟩ : MethodName)) rfl hown (mvT hZ (ww hw 14 rfl)) (mvT hZ (ww hw 15 rfl)) (mvT hZ (ww hw 17 rfl)) (by decide) (own_backI (s := s.setVm s.vm) (W := 0) (rmS4_0 l Z a0 hw [] zC vF hvF GS x b h0 n0 (by omega) O0 E_x (by omega) Fv Fc) hZ (ww hw 17 rfl) (ww hw 9 rfl) (by decide) (by decide) hI) (g := (mkF m 6 #[.val (.ref x), .val (.ref b)] [.null, .int 0, .int 0, .ref b, .ref x])) rfl (by rw [hml]; rfl) (Steps.refl _) (a := x) (argsL := [.ref b, .int 0, .int 0, .null]) (rest := []) (lenOf own_pd_3 rfl) rfl (by show 2 * 0 + _ ≤ _; exact Nat.le_of_eq rfl) (hb hby own_d3_6) (fun _ _ => ⟨rfl, e0, (by decide : 0 + 2 ≤ _), (by decide : 0 + 5 ≤ _)⟩)
 dsimp only [Pt.U, Pt.locs, Pt.cells, Pt.slots] at Xw3 hSw3 hGw3 l3 y3 z3 st3 hQ3
 subst l3 y3 z3
 obtain ⟨X3, hS3, hZ3, hown3⟩ := rebS hS0 (by rw [e0]; omega) Xw3 hSw3 hGw3 hZ hown
 obtain ⟨t_4, kB_5, rfl, N3q, K3, p3_0, p3_1, p3_2⟩ := hQ3
 have N6 := Fr.app N0 N3q
 have zzK3 : h0.size ≤ T3.heap.size := K3.1
 have oo7 : Old Z n0 T3.heap := O0.keep K3 (allS (by omega : n0 ≤ x) all0)
 have kt8 : Keep h0 T3.heap [x] := KT0.trans K3 (allS (Or.inl (List.mem_of_getElem? (i := 0) rfl)) all0)
 refine own_by (T' := T3) (g' := (mkF m 9 #[.val (.ref x), .val (.ref b)] [])) (fun _ kt_ => st3.trans kt_) ?_
 obtain ⟨fs9, hr9, hrun9, hended9, hW9⟩ := X3.leaveW hS3 (by omega) (v := none) (fun _ => rfl)
 refine ⟨_, _, X3.returnOut hx Bd.returns (hb hby own_d3_9) hr9, hrun9, hended9, _, _, rfl, ?_, hW9.1, hW9.2.1, hW9.2.2.1, hW9.2.2.2.mono (by decide) (by decide)⟩
 show Q_rmS1_0 Z zC vF hvF x b kC h0 n0 _ T3.heap _
 exact ⟨t_4, kB_5, rfl, N6, kt8, p3_0, p3_1, p3_2⟩
theorem own_pd_4 : parseMethodDescriptor "([C)V" = some ⟨[(.array .char)], none⟩ := by decide +kernel
theorem own_d2_0 : decode method_5_code 0 = .ok (.iload_n 0, 1) := by decide +kernel
theorem own_d2_1 : decode method_5_code 1 = .ok (.ifCond .ne 14, 3) := by decide +kernel
theorem own_d2_4 : decode method_5_code 4 = .ok (.new 27, 3) := by decide +kernel
theorem own_d2_7 : decode method_5_code 7 = .ok (.dup, 1) := by decide +kernel
theorem own_d2_8 : decode method_5_code 8 = .ok (.iconst 0, 1) := by decide +kernel
theorem own_d2_9 : decode method_5_code 9 = .ok (.newarray .char, 2) := by decide +kernel
theorem own_d2_11 : decode method_5_code 11 = .ok (.invokespecial 29, 3) := by decide +kernel
theorem own_d2_14 : decode method_5_code 14 = .ok (.areturn, 1) := by decide +kernel
theorem own_d2_15 : decode method_5_code 15 = .ok (.iload_n 0, 1) := by decide +kernel
theorem own_d2_16 : decode method_5_code 16 = .ok (.iconst 1, 1) := by decide +kernel
theorem own_d2_17 : decode method_5_code 17 = .ok (.if_icmp .ne 18, 3) := by decide +kernel
theorem own_d2_20 : decode method_5_code 20 = .ok (.new 27, 3) := by decide +kernel
theorem own_d2_23 : decode method_5_code 23 = .ok (.dup, 1) := by decide +kernel
theorem own_d2_24 : decode method_5_code 24 = .ok (.iconst 1, 1) := by decide +kernel
theorem own_d2_25 : decode method_5_code 25 = .ok (.newarray .char, 2) := by decide +kernel
theorem own_d2_27 : decode method_5_code 27 = .ok (.dup, 1) := by decide +kernel
theorem own_d2_28 : decode method_5_code 28 = .ok (.iconst 0, 1) := by decide +kernel
theorem own_d2_29 : decode method_5_code 29 = .ok (.iload_n 1, 1) := by decide +kernel
theorem own_d2_30 : decode method_5_code 30 = .ok (.castore, 1) := by decide +kernel
theorem own_d2_31 : decode method_5_code 31 = .ok (.invokespecial 29, 3) := by decide +kernel
theorem own_d2_34 : decode method_5_code 34 = .ok (.areturn, 1) := by decide +kernel
theorem own_d2_35 : decode method_5_code 35 = .ok (.iload_n 0, 1) := by decide +kernel
theorem own_d2_36 : decode method_5_code 36 = .ok (.iconst 2, 1) := by decide +kernel
theorem own_d2_37 : decode method_5_code 37 = .ok (.if_icmp .ne 22, 3) := by decide +kernel
theorem own_d2_40 : decode method_5_code 40 = .ok (.new 27, 3) := by decide +kernel
theorem own_d2_43 : decode method_5_code 43 = .ok (.dup, 1) := by decide +kernel
theorem own_d2_44 : decode method_5_code 44 = .ok (.iconst 2, 1) := by decide +kernel
theorem own_d2_45 : decode method_5_code 45 = .ok (.newarray .char, 2) := by decide +kernel
theorem own_d2_47 : decode method_5_code 47 = .ok (.dup, 1) := by decide +kernel
theorem own_d2_48 : decode method_5_code 48 = .ok (.iconst 0, 1) := by decide +kernel
theorem own_d2_49 : decode method_5_code 49 = .ok (.iload_n 1, 1) := by decide +kernel
theorem own_d2_50 : decode method_5_code 50 = .ok (.castore, 1) := by decide +kernel
theorem own_d2_51 : decode method_5_code 51 = .ok (.dup, 1) := by decide +kernel
theorem own_d2_52 : decode method_5_code 52 = .ok (.iconst 1, 1) := by decide +kernel
theorem own_d2_53 : decode method_5_code 53 = .ok (.iload_n 2, 1) := by decide +kernel
theorem own_d2_54 : decode method_5_code 54 = .ok (.castore, 1) := by decide +kernel
theorem own_d2_55 : decode method_5_code 55 = .ok (.invokespecial 29, 3) := by decide +kernel
theorem own_d2_58 : decode method_5_code 58 = .ok (.areturn, 1) := by decide +kernel
theorem own_d2_59 : decode method_5_code 59 = .ok (.iload_n 0, 1) := by decide +kernel
theorem own_d2_60 : decode method_5_code 60 = .ok (.iconst 3, 1) := by decide +kernel
theorem own_d2_61 : decode method_5_code 61 = .ok (.if_icmp .ne 26, 3) := by decide +kernel
theorem own_d2_64 : decode method_5_code 64 = .ok (.new 27, 3) := by decide +kernel
theorem own_d2_67 : decode method_5_code 67 = .ok (.dup, 1) := by decide +kernel
theorem own_d2_68 : decode method_5_code 68 = .ok (.iconst 3, 1) := by decide +kernel
theorem own_d2_69 : decode method_5_code 69 = .ok (.newarray .char, 2) := by decide +kernel
theorem own_d2_71 : decode method_5_code 71 = .ok (.dup, 1) := by decide +kernel
theorem own_d2_72 : decode method_5_code 72 = .ok (.iconst 0, 1) := by decide +kernel
theorem own_d2_73 : decode method_5_code 73 = .ok (.iload_n 1, 1) := by decide +kernel
theorem own_d2_74 : decode method_5_code 74 = .ok (.castore, 1) := by decide +kernel
theorem own_d2_75 : decode method_5_code 75 = .ok (.dup, 1) := by decide +kernel
theorem own_d2_76 : decode method_5_code 76 = .ok (.iconst 1, 1) := by decide +kernel
theorem own_d2_77 : decode method_5_code 77 = .ok (.iload_n 2, 1) := by decide +kernel
theorem own_d2_78 : decode method_5_code 78 = .ok (.castore, 1) := by decide +kernel
theorem own_d2_79 : decode method_5_code 79 = .ok (.dup, 1) := by decide +kernel
theorem own_d2_80 : decode method_5_code 80 = .ok (.iconst 2, 1) := by decide +kernel
theorem own_d2_81 : decode method_5_code 81 = .ok (.iload_n 3, 1) := by decide +kernel
theorem own_d2_82 : decode method_5_code 82 = .ok (.castore, 1) := by decide +kernel
theorem own_d2_83 : decode method_5_code 83 = .ok (.invokespecial 29, 3) := by decide +kernel
theorem own_d2_86 : decode method_5_code 86 = .ok (.areturn, 1) := by decide +kernel
theorem own_d2_87 : decode method_5_code 87 = .ok (.new 27, 3) := by decide +kernel
theorem own_d2_90 : decode method_5_code 90 = .ok (.dup, 1) := by decide +kernel
theorem own_d2_91 : decode method_5_code 91 = .ok (.iconst 4, 1) := by decide +kernel
theorem own_d2_92 : decode method_5_code 92 = .ok (.newarray .char, 2) := by decide +kernel
theorem own_d2_94 : decode method_5_code 94 = .ok (.dup, 1) := by decide +kernel
theorem own_d2_95 : decode method_5_code 95 = .ok (.iconst 0, 1) := by decide +kernel
theorem own_d2_96 : decode method_5_code 96 = .ok (.iload_n 1, 1) := by decide +kernel
theorem own_d2_97 : decode method_5_code 97 = .ok (.castore, 1) := by decide +kernel
theorem own_d2_98 : decode method_5_code 98 = .ok (.dup, 1) := by decide +kernel
theorem own_d2_99 : decode method_5_code 99 = .ok (.iconst 1, 1) := by decide +kernel
theorem own_d2_100 : decode method_5_code 100 = .ok (.iload_n 2, 1) := by decide +kernel
theorem own_d2_101 : decode method_5_code 101 = .ok (.castore, 1) := by decide +kernel
theorem own_d2_102 : decode method_5_code 102 = .ok (.dup, 1) := by decide +kernel
theorem own_d2_103 : decode method_5_code 103 = .ok (.iconst 2, 1) := by decide +kernel
theorem own_d2_104 : decode method_5_code 104 = .ok (.iload_n 3, 1) := by decide +kernel
theorem own_d2_105 : decode method_5_code 105 = .ok (.castore, 1) := by decide +kernel
theorem own_d2_106 : decode method_5_code 106 = .ok (.dup, 1) := by decide +kernel
theorem own_d2_107 : decode method_5_code 107 = .ok (.iconst 3, 1) := by decide +kernel
theorem own_d2_108 : decode method_5_code 108 = .ok (.iload 4, 2) := by decide +kernel
theorem own_d2_110 : decode method_5_code 110 = .ok (.castore, 1) := by decide +kernel
theorem own_d2_111 : decode method_5_code 111 = .ok (.invokespecial 29, 3) := by decide +kernel
theorem own_d2_114 : decode method_5_code 114 = .ok (.areturn, 1) := by decide +kernel
theorem own_pn_com_example_vestledger_vestledger_journal_JournalDecimalsDigitsFromPinLaw : plainName "com/example/vestledger/vestledger/journal/JournalDecimalsDigitsFromPinLaw" = true := by first | (simp [plainName, overriddenIn]; done) | decide +kernel
theorem own_ef_rmBuild (m : MethodId) (x0 : Int32) (x1 : Int32) (x2 : Int32) (x3 : Int32) (x4 : Int32) : entryFrame m #[.int x0, .int x1, .int x2, .int x3, .int x4] 5 = mkF m 0 #[.val (.int x0), .val (.int x1), .val (.int x2), .val (.int x3), .val (.int x4)] [] := by first | (simp [entryFrame, mkF, argsToLocals, Value.category]; done) | rfl
def Q_rmBuild (Z : State) (zC : Int32) (vF : Value) (hvF : vF.isRef = true) (nn : Int32) (c0 : Int32) (c1 : Int32) (c2 : Int32) (c3 : Int32) (h0 : Heap) (n0 : Nat) (vv_ : Option Value) (hh_ : Heap) (LL_ : List Loc) : Prop := ∃ x : Addr, ∃ t : Addr, ∃ kB : ClassId, vv_ = some (.ref x) ∧ Fr n0 LL_ ∧ Keep h0 hh_ [] ∧ h0.size ≤ x ∧ Exa Z hh_ x "java/lang/String" ∧ Fld Z hh_ x "java/lang/String" "value" "[B" (.ref t) ∧ Fld Z hh_ x "java/lang/String" "coder" "B" (.int 0) ∧ Arv Z hh_ t kB .byte nn (bF nn c0 c1 c2 c3) (.int 0)
set_option maxRecDepth 65536 in
set_option maxHeartbeats 40000000 in
theorem rmBuild (l : Launch) (Z : State) (a0 : Array Value) (hw : ∀ d ∈ tables_1, d.before a0 Z = true) (ws : List Jvm.Cond) (zC : Int32) (vF : Value) (hvF : vF.isRef = true) (GS : Glob Z zC vF hvF) (nn : Int32) (c0 : Int32) (c1 : Int32) (c2 : Int32) (c3 : Int32) (h0 : Heap) (n0 : Nat) (Z0 : n0 ≤ h0.size) (O0 : Old Z n0 h0) (hl : (nn = (0 : Int32) ∨ nn = (1 : Int32) ∨ nn = (2 : Int32) ∨ nn = (3 : Int32) ∨ nn = (4 : Int32))) (ok0 : okF c0) (ok1 : okF c1) (ok2 : okF c2) (ok3 : okF c3) :
  MetFree l (⟨"com/example/vestledger/vestledger/journal/JournalDecimalsDigitsFromPinLaw", "build", "(ICCCC)Ljava/lang/String;"⟩ : MethodName) (head1 (Jvm.Cond.code (⟨"com/example/vestledger/vestledger/journal/JournalDecimalsDigitsFromPinLaw", "build", "(ICCCC)Ljava/lang/String;"⟩ : MethodName) method_5_code 5 (some (.object "java/lang/String")) :: ws) (⟨4, 4, 12, 66⟩ : Room)) (fun aa_ UU_ => aa_ = #[.int nn, .int c0, .int c1, .int c2, .int c3] ∧ Z.Warmed39 UU_.vm ∧ UU_.heap = h0 ∧ IB Z UU_.vm []) (fun _ _ _ _ _ => True) (fun _ UU_ oo_ UV_ => ∃ vv_ LL_, oo_ = .returned vv_ ∧ Q_rmBuild Z zC vF hvF nn c0 c1 c2 c3 h0 n0 vv_ UV_.heap LL_ ∧ ReturnedEndW UU_ oo_ UV_ LL_ (⟨4, 4, 12, 66⟩ : Room).cells (⟨4, 4, 12, 66⟩ : Room).slots) := by
 refine MetFree.of_bodySF (plainFor_of_name own_pn_com_example_vestledger_vestledger_journal_JournalDecimalsDigitsFromPinLaw) hisR ?_
 intro p e s m args below meth c s₁ Bd hml0 hP hK
 obtain ⟨rfl, hZ, hh, hI⟩ := hP
 have hx := Bd.exec
 have hby := Bd.bytes
 have hml : c.maxLocals = 5 := hml0
 have hown : s.vm.findClass "com/example/vestledger/vestledger/journal/JournalDecimalsDigitsFromPinLaw" = some m.cls := findClass_of_methodNamed Bd.named
 have hnm := (name_of_methodNamed Bd.named Bd.method).1
 have X0 : Stand p l e (⟨4, 4, 12, 66⟩ : Room) (s.setVm s.vm) m #[.int nn, .int c0, .int c1, .int c2, .int c3] below meth c s₁ [] 0 0 := Stand.of_body Bd
 have e0 : s₁.heap = h0 := by rw [← hh, Bd.state]; rfl
 have N0 := Fr.nil n0
 have hn0 : Z.heap.size = n0 := O0.1
 have KT0 : Keep h0 h0 [] := Keep.refl _ _
 have hS0 : s.Since s.vm h0.size := (State.WarmedH.refl s).since _
 refine own_enter (Φ := fun oo_ UV_ => ∃ vv_ LL_, oo_ = .returned vv_ ∧ Q_rmBuild Z zC vF hvF nn c0 c1 c2 c3 h0 n0 vv_ UV_.heap LL_ ∧ ReturnedEndW s oo_ UV_ LL_ (⟨4, 4, 12, 66⟩ : Room).cells (⟨4, 4, 12, 66⟩ : Room).slots) (own_ef_rmBuild m nn c0 c1 c2 c3) ?_
 refine own_by (T' := s₁) (g' := (mkF m 1 #[.val (.int nn), .val (.int c0), .val (.int c1), .val (.int c2), .val (.int c3)] [.int nn])) (fun _ kt_ => XS.iloadN X0.here hx rfl (hb hby own_d2_0) rfl kt_) ?_
 by_cases hc1 : nn = (0 : Int32)
 ·refine own_by (T' := s₁) (g' := (mkF m 4 #[.val (.int nn), .val (.int c0), .val (.int c1), .val (.int c2), .val (.int c3)] [])) (fun _ kt_ => XS.ifNo X0.here hx rfl (hb hby own_d2_1) rfl (XT.i0_ne_f hc1) kt_) ?_
  obtain ⟨T2, h2, X2, e2, E2, A2, D2, -, st2⟩ := newO X0 hx hZ hown (ww hw 7 rfl) (ww hw 8 rfl) (ww hw 9 rfl) e0 (g := (mkF m 4 #[.val (.int nn), .val (.int c0), .val (.int c1), .val (.int c2), .val (.int c3)] [])) rfl (hb hby own_d2_4) (by decide) (by decide)
  obtain ⟨b2, g2⟩ : ∃ z, z = h0.size := ⟨_, rfl⟩
  rw [← g2] at A2 D2 st2
  have K3 : Keep h0 h2 [] := own_kext E2
  have zzK3 : h0.size ≤ h2.size := K3.1
  have oo4 : Old Z n0 h2 := O0.keep K3 all0
  have kt5 : Keep h0 h2 [] := KT0.trans K3 all0
  have lab2 : b2 < h2.size := A2.lt
  have f6 : Fld Z h2 b2 "java/lang/String" "value" "[B" .null := D2 (Or.inr (ww hw 23 rfl)) (ty := (.array .byte)) (by decide)
  have f7 : Fld Z h2 b2 "java/lang/String" "coder" "B" (.int 0) := D2 (Or.inr (ww hw 24 rfl)) (ty := .byte) (by decide)
  refine own_by (T' := T2) (g' := (mkF m 7 #[.val (.int nn), .val (.int c0), .val (.int c1), .val (.int c2), .val (.int c3)] [.ref b2])) st2 ?_
  refine own_by (T' := T2) (g' := (mkF m 8 #[.val (.int nn), .val (.int c0), .val (.int c1), .val (.int c2), .val (.int c3)] [.ref b2, .ref b2])) (fun _ kt_ => XS.dup X2.here hx rfl (hb hby own_d2_7) rfl rfl kt_) ?_
  refine own_by (T' := T2) (g' := (mkF m 9 #[.val (.int nn), .val (.int c0), .val (.int c1), .val (.int c2), .val (.int c3)] [.int 0, .ref b2, .ref b2])) (fun _ kt_ => XS.iconst X2.here hx rfl (hb hby own_d2_8) kt_) ?_
  obtain ⟨T8, h8, k8, X8, e8, E8, A8, st8⟩ := newP X2 hx hZ (ww hw 10 rfl) e2 (g := (mkF m 9 #[.val (.int nn), .val (.int c0), .val (.int c1), .val (.int c2), .val (.int c3)] [.int 0, .ref b2, .ref b2])) rfl (hb hby own_d2_9) rfl (by decide) (cap := 0) (by decide) (by decide) (by decide) (by decide)
  obtain ⟨b8, g8⟩ : ∃ z, z = h2.size := ⟨_, rfl⟩
  rw [← g8] at A8 st8
  have K9 : Keep h2 h8 [] := own_kext E8
  have zzK9 : h2.size ≤ h8.size := K9.1
  have oo10 : Old Z n0 h8 := oo4.keep K9 all0
  have kt11 : Keep h0 h8 [] := kt5.trans K9 all0
  have lab8 : b8 < h8.size := A8.lt
  have f12 : Arv Z h8 b8 k8 .char (0 : Int32) [] (.int 0) := (Arv.new A8 (by decide)).pad (pad_rep [] (.int 0) 0)
  refine own_by (T' := T8) (g' := (mkF m 11 #[.val (.int nn), .val (.int c0), .val (.int c1), .val (.int c2), .val (.int c3)] [.ref b8, .ref b2, .ref b2])) st8 ?_
  have f13 : Exa Z h8 b2 "java/lang/String" := (A2.keep K9)
  have f14 : Fld Z h8 b2 "java/lang/String" "value" "[B" .null := (f6.keep K9 nin0)
  have f15 : Fld Z h8 b2 "java/lang/String" "coder" "B" (.int 0) := (f7.keep K9 nin0)
  obtain ⟨_, _, ⟨T16, L16, k16, n16⟩, -, Xw16, hSw16, hGw16, ⟨Lc16, hQ16, l16, y16, z16⟩, st16⟩ := X8.specialBackS hx (y := (⟨"java/lang/String", "<init>", "([C)V"⟩ : MethodName)) rfl hown (mvT hZ (ww hw 11 rfl)) (mvT hZ (ww hw 12 rfl)) (mvT hZ (ww hw 13 rfl)) (by decide) (own_backI (s := s.setVm s.vm) (W := 1) (rmS1_0 l Z a0 hw [] zC vF hvF GS b2 b8 k8 h8 n0 (by omega) oo10 f13 (by omega) f14 f15 f12) hZ (ww hw 13 rfl) (ww hw 9 rfl) (by decide) (by decide) hI) (g := (mkF m 11 #[.val (.int nn), .val (.int c0), .val (.int c1), .val (.int c2), .val (.int c3)] [.ref b8, .ref b2, .ref b2])) rfl (by rw [hml]; rfl) (Steps.refl _) (a := b2) (argsL := [.ref b8]) (rest := [.ref b2]) (lenOf own_pd_4 rfl) rfl (by show 2 * 0 + _ ≤ _; exact Nat.le_of_eq rfl) (hb hby own_d2_11) (fun _ _ => ⟨rfl, e8, (by decide : 2 + 2 ≤ _), (by decide : 4 + 5 ≤ _)⟩)
  dsimp only [Pt.U, Pt.locs, Pt.cells, Pt.slots] at Xw16 hSw16 hGw16 l16 y16 z16 st16 hQ16
  subst l16 y16 z16
  obtain ⟨X16, hS16, hZ16, hown16⟩ := rebS hS0 (by rw [e8]; omega) Xw16 hSw16 hGw16 hZ hown
  obtain ⟨t_17, kB_18, rfl, N16q, K16, p16_0, p16_1, p16_2⟩ := hQ16
  have N19 := Fr.app N0 N16q
  have zzK16 : h8.size ≤ T16.heap.size := K16.1
  have oo20 : Old Z n0 T16.heap := oo10.keep K16 (allS (by omega : n0 ≤ b2) all0)
  have kt21 : Keep h0 T16.heap [] := kt11.trans K16 (allS (Or.inr (by omega : h0.size ≤ b2)) all0)
  refine own_by (T' := T16) (g' := (mkF m 14 #[.val (.int nn), .val (.int c0), .val (.int c1), .val (.int c2), .val (.int c3)] [.ref b2])) (fun _ kt_ => st16.trans kt_) ?_
  have f22 : Arv Z T16.heap t_17 kB_18 .byte nn (bF nn c0 c1 c2 c3) (.int 0) := by rw [show nn = (0 : Int32) from hc1, own_bF0]; exact p16_2
  have f23 : Exa Z T16.heap b2 "java/lang/String" := (f13.keep K16)
  obtain ⟨fs24, hr24, hrun24, hended24, hW24⟩ := X16.leaveW hS16 (by omega) (v := some (.ref b2)) (fun h => by rw [Bd.returns] at h; cases h)
  refine ⟨_, _, retOut X16 hx (t := (.object "java/lang/String")) Bd.returns rfl (Or.inr (Or.inr (Or.inr (Or.inr ⟨rfl, rfl, rfl⟩)))) (hb hby own_d2_14) hr24, hrun24, hended24, _, _, rfl, ?_, hW24.1, hW24.2.1, hW24.2.2.1, hW24.2.2.2.mono (by decide) (by decide)⟩
  show Q_rmBuild Z zC vF hvF nn c0 c1 c2 c3 h0 n0 _ T16.heap _
  exact ⟨b2, t_17, kB_18, rfl, N19, kt21, (by omega), f23, p16_0, p16_1, f22⟩
 ·refine own_by (T' := s₁) (g' := (mkF m 15 #[.val (.int nn), .val (.int c0), .val (.int c1), .val (.int c2), .val (.int c3)] [])) (fun _ kt_ => XS.ifYes X0.here hx rfl (pc0 := 1) (pc' := 15) rfl (hb hby own_d2_1) rfl (XT.i0_ne_t hc1) (by decide) (by decide) kt_) ?_
  refine own_by (T' := s₁) (g' := (mkF m 16 #[.val (.int nn), .val (.int c0), .val (.int c1), .val (.int c2), .val (.int c3)] [.int nn])) (fun _ kt_ => XS.iloadN X0.here hx rfl (hb hby own_d2_15) rfl kt_) ?_
  refine own_by (T' := s₁) (g' := (mkF m 17 #[.val (.int nn), .val (.int c0), .val (.int c1), .val (.int c2), .val (.int c3)] [.int 1, .int nn])) (fun _ kt_ => XS.iconst X0.here hx rfl (hb hby own_d2_16) kt_) ?_
  by_cases hc25 : nn = (1 : Int32)
  ·refine own_by (T' := s₁) (g' := (mkF m 20 #[.val (.int nn), .val (.int c0), .val (.int c1), .val (.int c2), .val (.int c3)] [])) (fun _ kt_ => XS.icmpNo X0.here hx rfl (hb hby own_d2_17) rfl (XT.ii_ne_f hc25) kt_) ?_
   obtain ⟨T26, h26, X26, e26, E26, A26, D26, -, st26⟩ := newO X0 hx hZ hown (ww hw 7 rfl) (ww hw 8 rfl) (ww hw 9 rfl) e0 (g := (mkF m 20 #[.val (.int nn), .val (.int c0), .val (.int c1), .val (.int c2), .val (.int c3)] [])) rfl (hb hby own_d2_20) (by decide) (by decide)
   obtain ⟨b26, g26⟩ : ∃ z, z = h0.size := ⟨_, rfl⟩
   rw [← g26] at A26 D26 st26
   have K27 : Keep h0 h26 [] := own_kext E26
   have zzK27 : h0.size ≤ h26.size := K27.1
   have oo28 : Old Z n0 h26 := O0.keep K27 all0
   have kt29 : Keep h0 h26 [] := KT0.trans K27 all0
   have lab26 : b26 < h26.size := A26.lt
   have f30 : Fld Z h26 b26 "java/lang/String" "value" "[B" .null := D26 (Or.inr (ww hw 23 rfl)) (ty := (.array .byte)) (by decide)
   have f31 : Fld Z h26 b26 "java/lang/String" "coder" "B" (.int 0) := D26 (Or.inr (ww hw 24 rfl)) (ty := .byte) (by decide)
   refine own_by (T' := T26) (g' := (mkF m 23 #[.val (.int nn), .val (.int c0), .val (.int c1), .val (.int c2), .val (.int c3)] [.ref b26])) st26 ?_
   refine own_by (T' := T26) (g' := (mkF m 24 #[.val (.int nn), .val (.int c0), .val (.int c1), .val (.int c2), .val (.int c3)] [.ref b26, .ref b26])) (fun _ kt_ => XS.dup X26.here hx rfl (hb hby own_d2_23) rfl rfl kt_) ?_
   refine own_by (T' := T26) (g' := (mkF m 25 #[.val (.int nn), .val (.int c0), .val (.int c1), .val (.int c2), .val (.int c3)] [.int 1, .ref b26, .ref b26])) (fun _ kt_ => XS.iconst X26.here hx rfl (hb hby own_d2_24) kt_) ?_
   obtain ⟨T32, h32, k32, X32, e32, E32, A32, st32⟩ := newP X26 hx hZ (ww hw 10 rfl) e26 (g := (mkF m 25 #[.val (.int nn), .val (.int c0), .val (.int c1), .val (.int c2), .val (.int c3)] [.int 1, .ref b26, .ref b26])) rfl (hb hby own_d2_25) rfl (by decide) (cap := 1) (by decide) (by decide) (by decide) (by decide)
   obtain ⟨b32, g32⟩ : ∃ z, z = h26.size := ⟨_, rfl⟩
   rw [← g32] at A32 st32
   have K33 : Keep h26 h32 [] := own_kext E32
   have zzK33 : h26.size ≤ h32.size := K33.1
   have oo34 : Old Z n0 h32 := oo28.keep K33 all0
   have kt35 : Keep h0 h32 [] := kt29.trans K33 all0
   have lab32 : b32 < h32.size := A32.lt
   have f36 : Arv Z h32 b32 k32 .char (1 : Int32) [.int 0] (.int 0) := (Arv.new A32 (by decide)).pad (pad_rep [] (.int 0) 1)
   refine own_by (T' := T32) (g' := (mkF m 27 #[.val (.int nn), .val (.int c0), .val (.int c1), .val (.int c2), .val (.int c3)] [.ref b32, .ref b26, .ref b26])) st32 ?_
   refine own_by (T' := T32) (g' := (mkF m 28 #[.val (.int nn), .val (.int c0), .val (.int c1), .val (.int c2), .val (.int c3)] [.ref b32, .ref b32, .ref b26, .ref b26])) (fun _ kt_ => XS.dup X32.here hx rfl (hb hby own_d2_27) rfl rfl kt_) ?_
   refine own_by (T' := T32) (g' := (mkF m 29 #[.val (.int nn), .val (.int c0), .val (.int c1), .val (.int c2), .val (.int c3)] [.int 0, .ref b32, .ref b32, .ref b26, .ref b26])) (fun _ kt_ => XS.iconst X32.here hx rfl (hb hby own_d2_28) kt_) ?_
   refine own_by (T' := T32) (g' := (mkF m 30 #[.val (.int nn), .val (.int c0), .val (.int c1), .val (.int c2), .val (.int c3)] [.int c0, .int 0, .ref b32, .ref b32, .ref b26, .ref b26])) (fun _ kt_ => XS.iloadN X32.here hx rfl (hb hby own_d2_29) rfl kt_) ?_
   obtain ⟨cl37, Ar37, q37, S37, M37, H37, G37⟩ := id f36
   have hin37 : ¬ ((0 : Int32) < 0 ∨ cl37.slots.size ≤ ((0 : Int32)).toNatClampNeg) := inb_of S37 ⟨by decide, by decide⟩
   obtain ⟨T37, h37, X37, e37, W37, st37⟩ := stC X32 hx hZ e32 Ar37 (j := (0 : Int32)) hin37 (g := (mkF m 30 #[.val (.int nn), .val (.int c0), .val (.int c1), .val (.int c2), .val (.int c3)] [.int c0, .int 0, .ref b32, .ref b32, .ref b26, .ref b26])) rfl rfl (hb hby own_d2_30)
   rw [show nar .char c0 = c0 from own_narok ok0] at W37
   have K38 : Keep h32 h37 [b32] := Keep.of_wr W37
   have zzK38 : h32.size ≤ h37.size := K38.1
   have oo39 : Old Z n0 h37 := oo34.keep K38 (allS (by omega : n0 ≤ b32) all0)
   have kt40 : Keep h0 h37 [] := kt35.trans K38 (allS (Or.inr (by omega : h0.size ≤ b32)) all0)
   have f41 : Arv Z h37 b32 k32 .char (1 : Int32) [.int c0] (.int 0) := Arv.set Ar37 q37 S37 M37 H37 G37 (own_fitok ok0) W37 0 rfl (Nat.le_of_ble_eq_true rfl)
   have N42 := Fr.snoc X37 N0 (by omega : n0 ≤ b32)
   refine own_by (T' := T37) (g' := (mkF m 31 #[.val (.int nn), .val (.int c0), .val (.int c1), .val (.int c2), .val (.int c3)] [.ref b32, .ref b26, .ref b26])) st37 ?_
   have f43 : Exa Z h37 b26 "java/lang/String" := ((A26.keep K33).keep K38)
   have ne44 : @Ne Nat b26 b32 := by omega
   have f45 : Fld Z h37 b26 "java/lang/String" "value" "[B" .null := ((f30.keep K33 nin0).keep K38 (ninS ne44 nin0))
   have f46 : Fld Z h37 b26 "java/lang/String" "coder" "B" (.int 0) := ((f31.keep K33 nin0).keep K38 (ninS ne44 nin0))
   have ne47 : @Ne Nat b32 b26 := by omega
   obtain ⟨_, _, ⟨T48, L48, k48, n48⟩, -, X48, ⟨Lc48, hQ48, l48, y48, z48⟩, st48⟩ := X37.specialBack hx (y := (⟨"java/lang/String", "<init>", "([C)V"⟩ : MethodName)) rfl hown (mvT hZ (ww hw 11 rfl)) (mvT hZ (ww hw 12 rfl)) (mvT hZ (ww hw 13 rfl)) (by decide) (backOf (W := 1) (rmS1_1 l Z a0 hw [] zC vF hvF GS b26 b32 k32 c0 h37 n0 (by omega) oo39 f43 (by omega) f45 f46 f41 ne47 ok0.2) hZ (ww hw 13 rfl) (ww hw 9 rfl) (by decide) (by decide)) (g := (mkF m 31 #[.val (.int nn), .val (.int c0), .val (.int c1), .val (.int c2), .val (.int c3)] [.ref b32, .ref b26, .ref b26])) rfl (by rw [hml]; rfl) (Steps.refl _) (a := b26) (argsL := [.ref b32]) (rest := [.ref b26]) (lenOf own_pd_4 rfl) rfl (by show 2 * 0 + _ ≤ _; exact Nat.le_of_eq rfl) (hb hby own_d2_31) (fun _ _ => ⟨rfl, e37, (by decide : 2 + 1 ≤ _), (by decide : 5 + 1 ≤ _)⟩)
   dsimp only [Pt.U, Pt.locs, Pt.cells, Pt.slots] at X48 l48 y48 z48 st48 hQ48
   subst l48 y48 z48
   obtain ⟨t_49, kB_50, rfl, N48q, K48, p48_0, p48_1, p48_2, p48_3⟩ := hQ48
   have N51 := Fr.app N42 N48q
   have gt_49 : h37.size ≤ t_49 := p48_0
   have zzK48 : h37.size ≤ T48.heap.size := K48.1
   have oo52 : Old Z n0 T48.heap := oo39.keep K48 (allS (by omega : n0 ≤ b26) all0)
   have kt53 : Keep h0 T48.heap [] := kt40.trans K48 (allS (Or.inr (by omega : h0.size ≤ b26)) all0)
   refine own_by (T' := T48) (g' := (mkF m 34 #[.val (.int nn), .val (.int c0), .val (.int c1), .val (.int c2), .val (.int c3)] [.ref b26])) (fun _ kt_ => st48.trans kt_) ?_
   have f54 : Arv Z T48.heap t_49 kB_50 .byte nn (bF nn c0 c1 c2 c3) (.int 0) := by rw [show nn = (1 : Int32) from hc25, own_bF1]; exact p48_3
   have f55 : Exa Z T48.heap b26 "java/lang/String" := (f43.keep K48)
   obtain ⟨fs56, hr56, hrun56, hended56, hW56⟩ := X48.leaveW hS0 (by omega) (v := some (.ref b26)) (fun h => by rw [Bd.returns] at h; cases h)
   refine ⟨_, _, retOut X48 hx (t := (.object "java/lang/String")) Bd.returns rfl (Or.inr (Or.inr (Or.inr (Or.inr ⟨rfl, rfl, rfl⟩)))) (hb hby own_d2_34) hr56, hrun56, hended56, _, _, rfl, ?_, hW56.1, hW56.2.1, hW56.2.2.1, hW56.2.2.2.mono (by decide) (by decide)⟩
   show Q_rmBuild Z zC vF hvF nn c0 c1 c2 c3 h0 n0 _ T48.heap _
   exact ⟨b26, t_49, kB_50, rfl, N51, kt53, (by omega), f55, p48_1, p48_2, f54⟩
  ·refine own_by (T' := s₁) (g' := (mkF m 35 #[.val (.int nn), .val (.int c0), .val (.int c1), .val (.int c2), .val (.int c3)] [])) (fun _ kt_ => XS.icmpYes X0.here hx rfl (pc0 := 17) (pc' := 35) rfl (hb hby own_d2_17) rfl (XT.ii_ne_t hc25) (by decide) (by decide) kt_) ?_
   refine own_by (T' := s₁) (g' := (mkF m 36 #[.val (.int nn), .val (.int c0), .val (.int c1), .val (.int c2), .val (.int c3)] [.int nn])) (fun _ kt_ => XS.iloadN X0.here hx rfl (hb hby own_d2_35) rfl kt_) ?_
   refine own_by (T' := s₁) (g' := (mkF m 37 #[.val (.int nn), .val (.int c0), .val (.int c1), .val (.int c2), .val (.int c3)] [.int 2, .int nn])) (fun _ kt_ => XS.iconst X0.here hx rfl (hb hby own_d2_36) kt_) ?_
   by_cases hc57 : nn = (2 : Int32)
   ·refine own_by (T' := s₁) (g' := (mkF m 40 #[.val (.int nn), .val (.int c0), .val (.int c1), .val (.int c2), .val (.int c3)] [])) (fun _ kt_ => XS.icmpNo X0.here hx rfl (hb hby own_d2_37) rfl (XT.ii_ne_f hc57) kt_) ?_
    obtain ⟨T58, h58, X58, e58, E58, A58, D58, -, st58⟩ := newO X0 hx hZ hown (ww hw 7 rfl) (ww hw 8 rfl) (ww hw 9 rfl) e0 (g := (mkF m 40 #[.val (.int nn), .val (.int c0), .val (.int c1), .val (.int c2), .val (.int c3)] [])) rfl (hb hby own_d2_40) (by decide) (by decide)
    obtain ⟨b58, g58⟩ : ∃ z, z = h0.size := ⟨_, rfl⟩
    rw [← g58] at A58 D58 st58
    have K59 : Keep h0 h58 [] := own_kext E58
    have zzK59 : h0.size ≤ h58.size := K59.1
    have oo60 : Old Z n0 h58 := O0.keep K59 all0
    have kt61 : Keep h0 h58 [] := KT0.trans K59 all0
    have lab58 : b58 < h58.size := A58.lt
    have f62 : Fld Z h58 b58 "java/lang/String" "value" "[B" .null := D58 (Or.inr (ww hw 23 rfl)) (ty := (.array .byte)) (by decide)
    have f63 : Fld Z h58 b58 "java/lang/String" "coder" "B" (.int 0) := D58 (Or.inr (ww hw 24 rfl)) (ty := .byte) (by decide)
    refine own_by (T' := T58) (g' := (mkF m 43 #[.val (.int nn), .val (.int c0), .val (.int c1), .val (.int c2), .val (.int c3)] [.ref b58])) st58 ?_
    refine own_by (T' := T58) (g' := (mkF m 44 #[.val (.int nn), .val (.int c0), .val (.int c1), .val (.int c2), .val (.int c3)] [.ref b58, .ref b58])) (fun _ kt_ => XS.dup X58.here hx rfl (hb hby own_d2_43) rfl rfl kt_) ?_
    refine own_by (T' := T58) (g' := (mkF m 45 #[.val (.int nn), .val (.int c0), .val (.int c1), .val (.int c2), .val (.int c3)] [.int 2, .ref b58, .ref b58])) (fun _ kt_ => XS.iconst X58.here hx rfl (hb hby own_d2_44) kt_) ?_
    obtain ⟨T64, h64, k64, X64, e64, E64, A64, st64⟩ := newP X58 hx hZ (ww hw 10 rfl) e58 (g := (mkF m 45 #[.val (.int nn), .val (.int c0), .val (.int c1), .val (.int c2), .val (.int c3)] [.int 2, .ref b58, .ref b58])) rfl (hb hby own_d2_45) rfl (by decide) (cap := 2) (by decide) (by decide) (by decide) (by decide)
    obtain ⟨b64, g64⟩ : ∃ z, z = h58.size := ⟨_, rfl⟩
    rw [← g64] at A64 st64
    have K65 : Keep h58 h64 [] := own_kext E64
    have zzK65 : h58.size ≤ h64.size := K65.1
    have oo66 : Old Z n0 h64 := oo60.keep K65 all0
    have kt67 : Keep h0 h64 [] := kt61.trans K65 all0
    have lab64 : b64 < h64.size := A64.lt
    have f68 : Arv Z h64 b64 k64 .char (2 : Int32) [.int 0, .int 0] (.int 0) := (Arv.new A64 (by decide)).pad (pad_rep [] (.int 0) 2)
    refine own_by (T' := T64) (g' := (mkF m 47 #[.val (.int nn), .val (.int c0), .val (.int c1), .val (.int c2), .val (.int c3)] [.ref b64, .ref b58, .ref b58])) st64 ?_
    refine own_by (T' := T64) (g' := (mkF m 48 #[.val (.int nn), .val (.int c0), .val (.int c1), .val (.int c2), .val (.int c3)] [.ref b64, .ref b64, .ref b58, .ref b58])) (fun _ kt_ => XS.dup X64.here hx rfl (hb hby own_d2_47) rfl rfl kt_) ?_
    refine own_by (T' := T64) (g' := (mkF m 49 #[.val (.int nn), .val (.int c0), .val (.int c1), .val (.int c2), .val (.int c3)] [.int 0, .ref b64, .ref b64, .ref b58, .ref b58])) (fun _ kt_ => XS.iconst X64.here hx rfl (hb hby own_d2_48) kt_) ?_
    refine own_by (T' := T64) (g' := (mkF m 50 #[.val (.int nn), .val (.int c0), .val (.int c1), .val (.int c2), .val (.int c3)] [.int c0, .int 0, .ref b64, .ref b64, .ref b58, .ref b58])) (fun _ kt_ => XS.iloadN X64.here hx rfl (hb hby own_d2_49) rfl kt_) ?_
    obtain ⟨cl69, Ar69, q69, S69, M69, H69, G69⟩ := id f68
    have hin69 : ¬ ((0 : Int32) < 0 ∨ cl69.slots.size ≤ ((0 : Int32)).toNatClampNeg) := inb_of S69 ⟨by decide, by decide⟩
    obtain ⟨T69, h69, X69, e69, W69, st69⟩ := stC X64 hx hZ e64 Ar69 (j := (0 : Int32)) hin69 (g := (mkF m 50 #[.val (.int nn), .val (.int c0), .val (.int c1), .val (.int c2), .val (.int c3)] [.int c0, .int 0, .ref b64, .ref b64, .ref b58, .ref b58])) rfl rfl (hb hby own_d2_50)
    rw [show nar .char c0 = c0 from own_narok ok0] at W69
    have K70 : Keep h64 h69 [b64] := Keep.of_wr W69
    have zzK70 : h64.size ≤ h69.size := K70.1
    have oo71 : Old Z n0 h69 := oo66.keep K70 (allS (by omega : n0 ≤ b64) all0)
    have kt72 : Keep h0 h69 [] := kt67.trans K70 (allS (Or.inr (by omega : h0.size ≤ b64)) all0)
    have f73 : Arv Z h69 b64 k64 .char (2 : Int32) [.int c0, .int 0] (.int 0) := Arv.set Ar69 q69 S69 M69 H69 G69 (own_fitok ok0) W69 0 rfl (Nat.le_of_ble_eq_true rfl)
    have N74 := Fr.snoc X69 N0 (by omega : n0 ≤ b64)
    refine own_by (T' := T69) (g' := (mkF m 51 #[.val (.int nn), .val (.int c0), .val (.int c1), .val (.int c2), .val (.int c3)] [.ref b64, .ref b58, .ref b58])) st69 ?_
    refine own_by (T' := T69) (g' := (mkF m 52 #[.val (.int nn), .val (.int c0), .val (.int c1), .val (.int c2), .val (.int c3)] [.ref b64, .ref b64, .ref b58, .ref b58])) (fun _ kt_ => XS.dup X69.here hx rfl (hb hby own_d2_51) rfl rfl kt_) ?_
    refine own_by (T' := T69) (g' := (mkF m 53 #[.val (.int nn), .val (.int c0), .val (.int c1), .val (.int c2), .val (.int c3)] [.int 1, .ref b64, .ref b64, .ref b58, .ref b58])) (fun _ kt_ => XS.iconst X69.here hx rfl (hb hby own_d2_52) kt_) ?_
    refine own_by (T' := T69) (g' := (mkF m 54 #[.val (.int nn), .val (.int c0), .val (.int c1), .val (.int c2), .val (.int c3)] [.int c1, .int 1, .ref b64, .ref b64, .ref b58, .ref b58])) (fun _ kt_ => XS.iloadN X69.here hx rfl (hb hby own_d2_53) rfl kt_) ?_
    obtain ⟨cl75, Ar75, q75, S75, M75, H75, G75⟩ := id f73
    have hin75 : ¬ ((1 : Int32) < 0 ∨ cl75.slots.size ≤ ((1 : Int32)).toNatClampNeg) := inb_of S75 ⟨by decide, by decide⟩
    obtain ⟨T75, h75, X75, e75, W75, st75⟩ := stC X69 hx hZ e69 Ar75 (j := (1 : Int32)) hin75 (g := (mkF m 54 #[.val (.int nn), .val (.int c0), .val (.int c1), .val (.int c2), .val (.int c3)] [.int c1, .int 1, .ref b64, .ref b64, .ref b58, .ref b58])) rfl rfl (hb hby own_d2_54)
    rw [show nar .char c1 = c1 from own_narok ok1] at W75
    have K76 : Keep h69 h75 [b64] := Keep.of_wr W75
    have zzK76 : h69.size ≤ h75.size := K76.1
    have oo77 : Old Z n0 h75 := oo71.keep K76 (allS (by omega : n0 ≤ b64) all0)
    have kt78 : Keep h0 h75 [] := kt72.trans K76 (allS (Or.inr (by omega : h0.size ≤ b64)) all0)
    have f79 : Arv Z h75 b64 k64 .char (2 : Int32) [.int c0, .int c1] (.int 0) := Arv.set Ar75 q75 S75 M75 H75 G75 (own_fitok ok1) W75 1 rfl (Nat.le_of_ble_eq_true rfl)
    have N80 := Fr.snoc X75 N74 (by omega : n0 ≤ b64)
    refine own_by (T' := T75) (g' := (mkF m 55 #[.val (.int nn), .val (.int c0), .val (.int c1), .val (.int c2), .val (.int c3)] [.ref b64, .ref b58, .ref b58])) st75 ?_
    have f81 : Exa Z h75 b58 "java/lang/String" := (((A58.keep K65).keep K70).keep K76)
    have ne82 : @Ne Nat b58 b64 := by omega
    have f83 : Fld Z h75 b58 "java/lang/String" "value" "[B" .null := (((f62.keep K65 nin0).keep K70 (ninS ne82 nin0)).keep K76 (ninS ne82 nin0))
    have f84 : Fld Z h75 b58 "java/lang/String" "coder" "B" (.int 0) := (((f63.keep K65 nin0).keep K70 (ninS ne82 nin0)).keep K76 (ninS ne82 nin0))
    have ne85 : @Ne Nat b64 b58 := by omega
    obtain ⟨_, _, ⟨T86, L86, k86, n86⟩, -, X86, ⟨Lc86, hQ86, l86, y86, z86⟩, st86⟩ := X75.specialBack hx (y := (⟨"java/lang/String", "<init>", "([C)V"⟩ : MethodName)) rfl hown (mvT hZ (ww hw 11 rfl)) (mvT hZ (ww hw 12 rfl)) (mvT hZ (ww hw 13 rfl)) (by decide) (backOf (W := 1) (rmS1_2 l Z a0 hw [] zC vF hvF GS b58 b64 k64 c0 c1 h75 n0 (by omega) oo77 f81 (by omega) f83 f84 f79 ne85 ok0.2 ok1.2) hZ (ww hw 13 rfl) (ww hw 9 rfl) (by decide) (by decide)) (g := (mkF m 55 #[.val (.int nn), .val (.int c0), .val (.int c1), .val (.int c2), .val (.int c3)] [.ref b64, .ref b58, .ref b58])) rfl (by rw [hml]; rfl) (Steps.refl _) (a := b58) (argsL := [.ref b64]) (rest := [.ref b58]) (lenOf own_pd_4 rfl) rfl (by show 2 * 0 + _ ≤ _; exact Nat.le_of_eq rfl) (hb hby own_d2_55) (fun _ _ => ⟨rfl, e75, (by decide : 2 + 1 ≤ _), (by decide : 6 + 2 ≤ _)⟩)
    dsimp only [Pt.U, Pt.locs, Pt.cells, Pt.slots] at X86 l86 y86 z86 st86 hQ86
    subst l86 y86 z86
    obtain ⟨t_87, kB_88, rfl, N86q, K86, p86_0, p86_1, p86_2, p86_3⟩ := hQ86
    have N89 := Fr.app N80 N86q
    have gt_87 : h75.size ≤ t_87 := p86_0
    have zzK86 : h75.size ≤ T86.heap.size := K86.1
    have oo90 : Old Z n0 T86.heap := oo77.keep K86 (allS (by omega : n0 ≤ b58) all0)
    have kt91 : Keep h0 T86.heap [] := kt78.trans K86 (allS (Or.inr (by omega : h0.size ≤ b58)) all0)
    refine own_by (T' := T86) (g' := (mkF m 58 #[.val (.int nn), .val (.int c0), .val (.int c1), .val (.int c2), .val (.int c3)] [.ref b58])) (fun _ kt_ => st86.trans kt_) ?_
    have f92 : Arv Z T86.heap t_87 kB_88 .byte nn (bF nn c0 c1 c2 c3) (.int 0) := by rw [show nn = (2 : Int32) from hc57, own_bF2]; exact p86_3
    have f93 : Exa Z T86.heap b58 "java/lang/String" := (f81.keep K86)
    obtain ⟨fs94, hr94, hrun94, hended94, hW94⟩ := X86.leaveW hS0 (by omega) (v := some (.ref b58)) (fun h => by rw [Bd.returns] at h; cases h)
    refine ⟨_, _, retOut X86 hx (t := (.object "java/lang/String")) Bd.returns rfl (Or.inr (Or.inr (Or.inr (Or.inr ⟨rfl, rfl, rfl⟩)))) (hb hby own_d2_58) hr94, hrun94, hended94, _, _, rfl, ?_, hW94.1, hW94.2.1, hW94.2.2.1, hW94.2.2.2.mono (by decide) (by decide)⟩
    show Q_rmBuild Z zC vF hvF nn c0 c1 c2 c3 h0 n0 _ T86.heap _
    exact ⟨b58, t_87, kB_88, rfl, N89, kt91, (by omega), f93, p86_1, p86_2, f92⟩
   ·refine own_by (T' := s₁) (g' := (mkF m 59 #[.val (.int nn), .val (.int c0), .val (.int c1), .val (.int c2), .val (.int c3)] [])) (fun _ kt_ => XS.icmpYes X0.here hx rfl (pc0 := 37) (pc' := 59) rfl (hb hby own_d2_37) rfl (XT.ii_ne_t hc57) (by decide) (by decide) kt_) ?_
    refine own_by (T' := s₁) (g' := (mkF m 60 #[.val (.int nn), .val (.int c0), .val (.int c1), .val (.int c2), .val (.int c3)] [.int nn])) (fun _ kt_ => XS.iloadN X0.here hx rfl (hb hby own_d2_59) rfl kt_) ?_
    refine own_by (T' := s₁) (g' := (mkF m 61 #[.val (.int nn), .val (.int c0), .val (.int c1), .val (.int c2), .val (.int c3)] [.int 3, .int nn])) (fun _ kt_ => XS.iconst X0.here hx rfl (hb hby own_d2_60) kt_) ?_
    by_cases hc95 : nn = (3 : Int32)
    ·refine own_by (T' := s₁) (g' := (mkF m 64 #[.val (.int nn), .val (.int c0), .val (.int c1), .val (.int c2), .val (.int c3)] [])) (fun _ kt_ => XS.icmpNo X0.here hx rfl (hb hby own_d2_61) rfl (XT.ii_ne_f hc95) kt_) ?_
     obtain ⟨T96, h96, X96, e96, E96, A96, D96, -, st96⟩ := newO X0 hx hZ hown (ww hw 7 rfl) (ww hw 8 rfl) (ww hw 9 rfl) e0 (g := (mkF m 64 #[.val (.int nn), .val (.int c0), .val (.int c1), .val (.int c2), .val (.int c3)] [])) rfl (hb hby own_d2_64) (by decide) (by decide)
     obtain ⟨b96, g96⟩ : ∃ z, z = h0.size := ⟨_, rfl⟩
     rw [← g96] at A96 D96 st96
     have K97 : Keep h0 h96 [] := own_kext E96
     have zzK97 : h0.size ≤ h96.size := K97.1
     have oo98 : Old Z n0 h96 := O0.keep K97 all0
     have kt99 : Keep h0 h96 [] := KT0.trans K97 all0
     have lab96 : b96 < h96.size := A96.lt
     have f100 : Fld Z h96 b96 "java/lang/String" "value" "[B" .null := D96 (Or.inr (ww hw 23 rfl)) (ty := (.array .byte)) (by decide)
     have f101 : Fld Z h96 b96 "java/lang/String" "coder" "B" (.int 0) := D96 (Or.inr (ww hw 24 rfl)) (ty := .byte) (by decide)
     refine own_by (T' := T96) (g' := (mkF m 67 #[.val (.int nn), .val (.int c0), .val (.int c1), .val (.int c2), .val (.int c3)] [.ref b96])) st96 ?_
     refine own_by (T' := T96) (g' := (mkF m 68 #[.val (.int nn), .val (.int c0), .val (.int c1), .val (.int c2), .val (.int c3)] [.ref b96, .ref b96])) (fun _ kt_ => XS.dup X96.here hx rfl (hb hby own_d2_67) rfl rfl kt_) ?_
     refine own_by (T' := T96) (g' := (mkF m 69 #[.val (.int nn), .val (.int c0), .val (.int c1), .val (.int c2), .val (.int c3)] [.int 3, .ref b96, .ref b96])) (fun _ kt_ => XS.iconst X96.here hx rfl (hb hby own_d2_68) kt_) ?_
     obtain ⟨T102, h102, k102, X102, e102, E102, A102, st102⟩ := newP X96 hx hZ (ww hw 10 rfl) e96 (g := (mkF m 69 #[.val (.int nn), .val (.int c0), .val (.int c1), .val (.int c2), .val (.int c3)] [.int 3, .ref b96, .ref b96])) rfl (hb hby own_d2_69) rfl (by decide) (cap := 3) (by decide) (by decide) (by decide) (by decide)
     obtain ⟨b102, g102⟩ : ∃ z, z = h96.size := ⟨_, rfl⟩
     rw [← g102] at A102 st102
     have K103 : Keep h96 h102 [] := own_kext E102
     have zzK103 : h96.size ≤ h102.size := K103.1
     have oo104 : Old Z n0 h102 := oo98.keep K103 all0
     have kt105 : Keep h0 h102 [] := kt99.trans K103 all0
     have lab102 : b102 < h102.size := A102.lt
     have f106 : Arv Z h102 b102 k102 .char (3 : Int32) [.int 0, .int 0, .int 0] (.int 0) := (Arv.new A102 (by decide)).pad (pad_rep [] (.int 0) 3)
     refine own_by (T' := T102) (g' := (mkF m 71 #[.val (.int nn), .val (.int c0), .val (.int c1), .val (.int c2), .val (.int c3)] [.ref b102, .ref b96, .ref b96])) st102 ?_
     refine own_by (T' := T102) (g' := (mkF m 72 #[.val (.int nn), .val (.int c0), .val (.int c1), .val (.int c2), .val (.int c3)] [.ref b102, .ref b102, .ref b96, .ref b96])) (fun _ kt_ => XS.dup X102.here hx rfl (hb hby own_d2_71) rfl rfl kt_) ?_
     refine own_by (T' := T102) (g' := (mkF m 73 #[.val (.int nn), .val (.int c0), .val (.int c1), .val (.int c2), .val (.int c3)] [.int 0, .ref b102, .ref b102, .ref b96, .ref b96])) (fun _ kt_ => XS.iconst X102.here hx rfl (hb hby own_d2_72) kt_) ?_
     refine own_by (T' := T102) (g' := (mkF m 74 #[.val (.int nn), .val (.int c0), .val (.int c1), .val (.int c2), .val (.int c3)] [.int c0, .int 0, .ref b102, .ref b102, .ref b96, .ref b96])) (fun _ kt_ => XS.iloadN X102.here hx rfl (hb hby own_d2_73) rfl kt_) ?_
     obtain ⟨cl107, Ar107, q107, S107, M107, H107, G107⟩ := id f106
     have hin107 : ¬ ((0 : Int32) < 0 ∨ cl107.slots.size ≤ ((0 : Int32)).toNatClampNeg) := inb_of S107 ⟨by decide, by decide⟩
     obtain ⟨T107, h107, X107, e107, W107, st107⟩ := stC X102 hx hZ e102 Ar107 (j := (0 : Int32)) hin107 (g := (mkF m 74 #[.val (.int nn), .val (.int c0), .val (.int c1), .val (.int c2), .val (.int c3)] [.int c0, .int 0, .ref b102, .ref b102, .ref b96, .ref b96])) rfl rfl (hb hby own_d2_74)
     rw [show nar .char c0 = c0 from own_narok ok0] at W107
     have K108 : Keep h102 h107 [b102] := Keep.of_wr W107
     have zzK108 : h102.size ≤ h107.size := K108.1
     have oo109 : Old Z n0 h107 := oo104.keep K108 (allS (by omega : n0 ≤ b102) all0)
     have kt110 : Keep h0 h107 [] := kt105.trans K108 (allS (Or.inr (by omega : h0.size ≤ b102)) all0)
     have f111 : Arv Z h107 b102 k102 .char (3 : Int32) [.int c0, .int 0, .int 0] (.int 0) := Arv.set Ar107 q107 S107 M107 H107 G107 (own_fitok ok0) W107 0 rfl (Nat.le_of_ble_eq_true rfl)
     have N112 := Fr.snoc X107 N0 (by omega : n0 ≤ b102)
     refine own_by (T' := T107) (g' := (mkF m 75 #[.val (.int nn), .val (.int c0), .val (.int c1), .val (.int c2), .val (.int c3)] [.ref b102, .ref b96, .ref b96])) st107 ?_
     refine own_by (T' := T107) (g' := (mkF m 76 #[.val (.int nn), .val (.int c0), .val (.int c1), .val (.int c2), .val (.int c3)] [.ref b102, .ref b102, .ref b96, .ref b96])) (fun _ kt_ => XS.dup X107.here hx rfl (hb hby own_d2_75) rfl rfl kt_) ?_
     refine own_by (T' := T107) (g' := (mkF m 77 #[.val (.int nn), .val (.int c0), .val (.int c1), .val (.int c2), .val (.int c3)] [.int 1, .ref b102, .ref b102, .ref b96, .ref b96])) (fun _ kt_ => XS.iconst X107.here hx rfl (hb hby own_d2_76) kt_) ?_
     refine own_by (T' := T107) (g' := (mkF m 78 #[.val (.int nn), .val (.int c0), .val (.int c1), .val (.int c2), .val (.int c3)] [.int c1, .int 1, .ref b102, .ref b102, .ref b96, .ref b96])) (fun _ kt_ => XS.iloadN X107.here hx rfl (hb hby own_d2_77) rfl kt_) ?_
     obtain ⟨cl113, Ar113, q113, S113, M113, H113, G113⟩ := id f111
     have hin113 : ¬ ((1 : Int32) < 0 ∨ cl113.slots.size ≤ ((1 : Int32)).toNatClampNeg) := inb_of S113 ⟨by decide, by decide⟩
     obtain ⟨T113, h113, X113, e113, W113, st113⟩ := stC X107 hx hZ e107 Ar113 (j := (1 : Int32)) hin113 (g := (mkF m 78 #[.val (.int nn), .val (.int c0), .val (.int c1), .val (.int c2), .val (.int c3)] [.int c1, .int 1, .ref b102, .ref b102, .ref b96, .ref b96])) rfl rfl (hb hby own_d2_78)
     rw [show nar .char c1 = c1 from own_narok ok1] at W113
     have K114 : Keep h107 h113 [b102] := Keep.of_wr W113
     have zzK114 : h107.size ≤ h113.size := K114.1
     have oo115 : Old Z n0 h113 := oo109.keep K114 (allS (by omega : n0 ≤ b102) all0)
     have kt116 : Keep h0 h113 [] := kt110.trans K114 (allS (Or.inr (by omega : h0.size ≤ b102)) all0)
     have f117 : Arv Z h113 b102 k102 .char (3 : Int32) [.int c0, .int c1, .int 0] (.int 0) := Arv.set Ar113 q113 S113 M113 H113 G113 (own_fitok ok1) W113 1 rfl (Nat.le_of_ble_eq_true rfl)
     have N118 := Fr.snoc X113 N112 (by omega : n0 ≤ b102)
     refine own_by (T' := T113) (g' := (mkF m 79 #[.val (.int nn), .val (.int c0), .val (.int c1), .val (.int c2), .val (.int c3)] [.ref b102, .ref b96, .ref b96])) st113 ?_
     refine own_by (T' := T113) (g' := (mkF m 80 #[.val (.int nn), .val (.int c0), .val (.int c1), .val (.int c2), .val (.int c3)] [.ref b102, .ref b102, .ref b96, .ref b96])) (fun _ kt_ => XS.dup X113.here hx rfl (hb hby own_d2_79) rfl rfl kt_) ?_
     refine own_by (T' := T113) (g' := (mkF m 81 #[.val (.int nn), .val (.int c0), .val (.int c1), .val (.int c2), .val (.int c3)] [.int 2, .ref b102, .ref b102, .ref b96, .ref b96])) (fun _ kt_ => XS.iconst X113.here hx rfl (hb hby own_d2_80) kt_) ?_
     refine own_by (T' := T113) (g' := (mkF m 82 #[.val (.int nn), .val (.int c0), .val (.int c1), .val (.int c2), .val (.int c3)] [.int c2, .int 2, .ref b102, .ref b102, .ref b96, .ref b96])) (fun _ kt_ => XS.iloadN X113.here hx rfl (hb hby own_d2_81) rfl kt_) ?_
     obtain ⟨cl119, Ar119, q119, S119, M119, H119, G119⟩ := id f117
     have hin119 : ¬ ((2 : Int32) < 0 ∨ cl119.slots.size ≤ ((2 : Int32)).toNatClampNeg) := inb_of S119 ⟨by decide, by decide⟩
     obtain ⟨T119, h119, X119, e119, W119, st119⟩ := stC X113 hx hZ e113 Ar119 (j := (2 : Int32)) hin119 (g := (mkF m 82 #[.val (.int nn), .val (.int c0), .val (.int c1), .val (.int c2), .val (.int c3)] [.int c2, .int 2, .ref b102, .ref b102, .ref b96, .ref b96])) rfl rfl (hb hby own_d2_82)
     rw [show nar .char c2 = c2 from own_narok ok2] at W119
     have K120 : Keep h113 h119 [b102] := Keep.of_wr W119
     have zzK120 : h113.size ≤ h119.size := K120.1
     have oo121 : Old Z n0 h119 := oo115.keep K120 (allS (by omega : n0 ≤ b102) all0)
     have kt122 : Keep h0 h119 [] := kt116.trans K120 (allS (Or.inr (by omega : h0.size ≤ b102)) all0)
     have f123 : Arv Z h119 b102 k102 .char (3 : Int32) [.int c0, .int c1, .int c2] (.int 0) := Arv.set Ar119 q119 S119 M119 H119 G119 (own_fitok ok2) W119 2 rfl (Nat.le_of_ble_eq_true rfl)
     have N124 := Fr.snoc X119 N118 (by omega : n0 ≤ b102)
     refine own_by (T' := T119) (g' := (mkF m 83 #[.val (.int nn), .val (.int c0), .val (.int c1), .val (.int c2), .val (.int c3)] [.ref b102, .ref b96, .ref b96])) st119 ?_
     have f125 : Exa Z h119 b96 "java/lang/String" := ((((A96.keep K103).keep K108).keep K114).keep K120)
     have ne126 : @Ne Nat b96 b102 := by omega
     have f127 : Fld Z h119 b96 "java/lang/String" "value" "[B" .null := ((((f100.keep K103 nin0).keep K108 (ninS ne126 nin0)).keep K114 (ninS ne126 nin0)).keep K120 (ninS ne126 nin0))
     have f128 : Fld Z h119 b96 "java/lang/String" "coder" "B" (.int 0) := ((((f101.keep K103 nin0).keep K108 (ninS ne126 nin0)).keep K114 (ninS ne126 nin0)).keep K120 (ninS ne126 nin0))
     have ne129 : @Ne Nat b102 b96 := by omega
     obtain ⟨_, _, ⟨T130, L130, k130, n130⟩, -, X130, ⟨Lc130, hQ130, l130, y130, z130⟩, st130⟩ := X119.specialBack hx (y := (⟨"java/lang/String", "<init>", "([C)V"⟩ : MethodName)) rfl hown (mvT hZ (ww hw 11 rfl)) (mvT hZ (ww hw 12 rfl)) (mvT hZ (ww hw 13 rfl)) (by decide) (backOf (W := 1) (rmS1_3 l Z a0 hw [] zC vF hvF GS b96 b102 k102 c0 c1 c2 h119 n0 (by omega) oo121 f125 (by omega) f127 f128 f123 ne129 ok0.2 ok1.2 ok2.2) hZ (ww hw 13 rfl) (ww hw 9 rfl) (by decide) (by decide)) (g := (mkF m 83 #[.val (.int nn), .val (.int c0), .val (.int c1), .val (.int c2), .val (.int c3)] [.ref b102, .ref b96, .ref b96])) rfl (by rw [hml]; rfl) (Steps.refl _) (a := b96) (argsL := [.ref b102]) (rest := [.ref b96]) (lenOf own_pd_4 rfl) rfl (by show 2 * 0 + _ ≤ _; exact Nat.le_of_eq rfl) (hb hby own_d2_83) (fun _ _ => ⟨rfl, e119, (by decide : 2 + 1 ≤ _), (by decide : 7 + 3 ≤ _)⟩)
     dsimp only [Pt.U, Pt.locs, Pt.cells, Pt.slots] at X130 l130 y130 z130 st130 hQ130
     subst l130 y130 z130
     obtain ⟨t_131, kB_132, rfl, N130q, K130, p130_0, p130_1, p130_2, p130_3⟩ := hQ130
     have N133 := Fr.app N124 N130q
     have gt_131 : h119.size ≤ t_131 := p130_0
     have zzK130 : h119.size ≤ T130.heap.size := K130.1
     have oo134 : Old Z n0 T130.heap := oo121.keep K130 (allS (by omega : n0 ≤ b96) all0)
     have kt135 : Keep h0 T130.heap [] := kt122.trans K130 (allS (Or.inr (by omega : h0.size ≤ b96)) all0)
     refine own_by (T' := T130) (g' := (mkF m 86 #[.val (.int nn), .val (.int c0), .val (.int c1), .val (.int c2), .val (.int c3)] [.ref b96])) (fun _ kt_ => st130.trans kt_) ?_
     have f136 : Arv Z T130.heap t_131 kB_132 .byte nn (bF nn c0 c1 c2 c3) (.int 0) := by rw [show nn = (3 : Int32) from hc95, own_bF3]; exact p130_3
     have f137 : Exa Z T130.heap b96 "java/lang/String" := (f125.keep K130)
     obtain ⟨fs138, hr138, hrun138, hended138, hW138⟩ := X130.leaveW hS0 (by omega) (v := some (.ref b96)) (fun h => by rw [Bd.returns] at h; cases h)
     refine ⟨_, _, retOut X130 hx (t := (.object "java/lang/String")) Bd.returns rfl (Or.inr (Or.inr (Or.inr (Or.inr ⟨rfl, rfl, rfl⟩)))) (hb hby own_d2_86) hr138, hrun138, hended138, _, _, rfl, ?_, hW138.1, hW138.2.1, hW138.2.2.1, hW138.2.2.2.mono (by decide) (by decide)⟩
     show Q_rmBuild Z zC vF hvF nn c0 c1 c2 c3 h0 n0 _ T130.heap _
     exact ⟨b96, t_131, kB_132, rfl, N133, kt135, (by omega), f137, p130_1, p130_2, f136⟩
    ·refine own_by (T' := s₁) (g' := (mkF m 87 #[.val (.int nn), .val (.int c0), .val (.int c1), .val (.int c2), .val (.int c3)] [])) (fun _ kt_ => XS.icmpYes X0.here hx rfl (pc0 := 61) (pc' := 87) rfl (hb hby own_d2_61) rfl (XT.ii_ne_t hc95) (by decide) (by decide) kt_) ?_
     obtain ⟨T139, h139, X139, e139, E139, A139, D139, -, st139⟩ := newO X0 hx hZ hown (ww hw 7 rfl) (ww hw 8 rfl) (ww hw 9 rfl) e0 (g := (mkF m 87 #[.val (.int nn), .val (.int c0), .val (.int c1), .val (.int c2), .val (.int c3)] [])) rfl (hb hby own_d2_87) (by decide) (by decide)
     obtain ⟨b139, g139⟩ : ∃ z, z = h0.size := ⟨_, rfl⟩
     rw [← g139] at A139 D139 st139
     have K140 : Keep h0 h139 [] := own_kext E139
     have zzK140 : h0.size ≤ h139.size := K140.1
     have oo141 : Old Z n0 h139 := O0.keep K140 all0
     have kt142 : Keep h0 h139 [] := KT0.trans K140 all0
     have lab139 : b139 < h139.size := A139.lt
     have f143 : Fld Z h139 b139 "java/lang/String" "value" "[B" .null := D139 (Or.inr (ww hw 23 rfl)) (ty := (.array .byte)) (by decide)
     have f144 : Fld Z h139 b139 "java/lang/String" "coder" "B" (.int 0) := D139 (Or.inr (ww hw 24 rfl)) (ty := .byte) (by decide)
     refine own_by (T' := T139) (g' := (mkF m 90 #[.val (.int nn), .val (.int c0), .val (.int c1), .val (.int c2), .val (.int c3)] [.ref b139])) st139 ?_
     refine own_by (T' := T139) (g' := (mkF m 91 #[.val (.int nn), .val (.int c0), .val (.int c1), .val (.int c2), .val (.int c3)] [.ref b139, .ref b139])) (fun _ kt_ => XS.dup X139.here hx rfl (hb hby own_d2_90) rfl rfl kt_) ?_
     refine own_by (T' := T139) (g' := (mkF m 92 #[.val (.int nn), .val (.int c0), .val (.int c1), .val (.int c2), .val (.int c3)] [.int 4, .ref b139, .ref b139])) (fun _ kt_ => XS.iconst X139.here hx rfl (hb hby own_d2_91) kt_) ?_
     obtain ⟨T145, h145, k145, X145, e145, E145, A145, st145⟩ := newP X139 hx hZ (ww hw 10 rfl) e139 (g := (mkF m 92 #[.val (.int nn), .val (.int c0), .val (.int c1), .val (.int c2), .val (.int c3)] [.int 4, .ref b139, .ref b139])) rfl (hb hby own_d2_92) rfl (by decide) (cap := 4) (by decide) (by decide) (by decide) (by decide)
     obtain ⟨b145, g145⟩ : ∃ z, z = h139.size := ⟨_, rfl⟩
     rw [← g145] at A145 st145
     have K146 : Keep h139 h145 [] := own_kext E145
     have zzK146 : h139.size ≤ h145.size := K146.1
     have oo147 : Old Z n0 h145 := oo141.keep K146 all0
     have kt148 : Keep h0 h145 [] := kt142.trans K146 all0
     have lab145 : b145 < h145.size := A145.lt
     have f149 : Arv Z h145 b145 k145 .char (4 : Int32) [.int 0, .int 0, .int 0, .int 0] (.int 0) := (Arv.new A145 (by decide)).pad (pad_rep [] (.int 0) 4)
     refine own_by (T' := T145) (g' := (mkF m 94 #[.val (.int nn), .val (.int c0), .val (.int c1), .val (.int c2), .val (.int c3)] [.ref b145, .ref b139, .ref b139])) st145 ?_
     refine own_by (T' := T145) (g' := (mkF m 95 #[.val (.int nn), .val (.int c0), .val (.int c1), .val (.int c2), .val (.int c3)] [.ref b145, .ref b145, .ref b139, .ref b139])) (fun _ kt_ => XS.dup X145.here hx rfl (hb hby own_d2_94) rfl rfl kt_) ?_
     refine own_by (T' := T145) (g' := (mkF m 96 #[.val (.int nn), .val (.int c0), .val (.int c1), .val (.int c2), .val (.int c3)] [.int 0, .ref b145, .ref b145, .ref b139, .ref b139])) (fun _ kt_ => XS.iconst X145.here hx rfl (hb hby own_d2_95) kt_) ?_
     refine own_by (T' := T145) (g' := (mkF m 97 #[.val (.int nn), .val (.int c0), .val (.int c1), .val (.int c2), .val (.int c3)] [.int c0, .int 0, .ref b145, .ref b145, .ref b139, .ref b139])) (fun _ kt_ => XS.iloadN X145.here hx rfl (hb hby own_d2_96) rfl kt_) ?_
     obtain ⟨cl150, Ar150, q150, S150, M150, H150, G150⟩ := id f149
     have hin150 : ¬ ((0 : Int32) < 0 ∨ cl150.slots.size ≤ ((0 : Int32)).toNatClampNeg) := inb_of S150 ⟨by decide, by decide⟩
     obtain ⟨T150, h150, X150, e150, W150, st150⟩ := stC X145 hx hZ e145 Ar150 (j := (0 : Int32)) hin150 (g := (mkF m 97 #[.val (.int nn), .val (.int c0), .val (.int c1), .val (.int c2), .val (.int c3)] [.int c0, .int 0, .ref b145, .ref b145, .ref b139, .ref b139])) rfl rfl (hb hby own_d2_97)
     rw [show nar .char c0 = c0 from own_narok ok0] at W150
     have K151 : Keep h145 h150 [b145] := Keep.of_wr W150
     have zzK151 : h145.size ≤ h150.size := K151.1
     have oo152 : Old Z n0 h150 := oo147.keep K151 (allS (by omega : n0 ≤ b145) all0)
     have kt153 : Keep h0 h150 [] := kt148.trans K151 (allS (Or.inr (by omega : h0.size ≤ b145)) all0)
     have f154 : Arv Z h150 b145 k145 .char (4 : Int32) [.int c0, .int 0, .int 0, .int 0] (.int 0) := Arv.set Ar150 q150 S150 M150 H150 G150 (own_fitok ok0) W150 0 rfl (Nat.le_of_ble_eq_true rfl)
     have N155 := Fr.snoc X150 N0 (by omega : n0 ≤ b145)
     refine own_by (T' := T150) (g' := (mkF m 98 #[.val (.int nn), .val (.int c0), .val (.int c1), .val (.int c2), .val (.int c3)] [.ref b145, .ref b139, .ref b139])) st150 ?_
     refine own_by (T' := T150) (g' := (mkF m 99 #[.val (.int nn), .val (.int c0), .val (.int c1), .val (.int c2), .val (.int c3)] [.ref b145, .ref b145, .ref b139, .ref b139])) (fun _ kt_ => XS.dup X150.here hx rfl (hb hby own_d2_98) rfl rfl kt_) ?_
     refine own_by (T' := T150) (g' := (mkF m 100 #[.val (.int nn), .val (.int c0), .val (.int c1), .val (.int c2), .val (.int c3)] [.int 1, .ref b145, .ref b145, .ref b139, .ref b139])) (fun _ kt_ => XS.iconst X150.here hx rfl (hb hby own_d2_99) kt_) ?_
     refine own_by (T' := T150) (g' := (mkF m 101 #[.val (.int nn), .val (.int c0), .val (.int c1), .val (.int c2), .val (.int c3)] [.int c1, .int 1, .ref b145, .ref b145, .ref b139, .ref b139])) (fun _ kt_ => XS.iloadN X150.here hx rfl (hb hby own_d2_100) rfl kt_) ?_
     obtain ⟨cl156, Ar156, q156, S156, M156, H156, G156⟩ := id f154
     have hin156 : ¬ ((1 : Int32) < 0 ∨ cl156.slots.size ≤ ((1 : Int32)).toNatClampNeg) := inb_of S156 ⟨by decide, by decide⟩
     obtain ⟨T156, h156, X156, e156, W156, st156⟩ := stC X150 hx hZ e150 Ar156 (j := (1 : Int32)) hin156 (g := (mkF m 101 #[.val (.int nn), .val (.int c0), .val (.int c1), .val (.int c2), .val (.int c3)] [.int c1, .int 1, .ref b145, .ref b145, .ref b139, .ref b139])) rfl rfl (hb hby own_d2_101)
     rw [show nar .char c1 = c1 from own_narok ok1] at W156
     have K157 : Keep h150 h156 [b145] := Keep.of_wr W156
     have zzK157 : h150.size ≤ h156.size := K157.1
     have oo158 : Old Z n0 h156 := oo152.keep K157 (allS (by omega : n0 ≤ b145) all0)
     have kt159 : Keep h0 h156 [] := kt153.trans K157 (allS (Or.inr (by omega : h0.size ≤ b145)) all0)
     have f160 : Arv Z h156 b145 k145 .char (4 : Int32) [.int c0, .int c1, .int 0, .int 0] (.int 0) := Arv.set Ar156 q156 S156 M156 H156 G156 (own_fitok ok1) W156 1 rfl (Nat.le_of_ble_eq_true rfl)
     have N161 := Fr.snoc X156 N155 (by omega : n0 ≤ b145)
     refine own_by (T' := T156) (g' := (mkF m 102 #[.val (.int nn), .val (.int c0), .val (.int c1), .val (.int c2), .val (.int c3)] [.ref b145, .ref b139, .ref b139])) st156 ?_
     refine own_by (T' := T156) (g' := (mkF m 103 #[.val (.int nn), .val (.int c0), .val (.int c1), .val (.int c2), .val (.int c3)] [.ref b145, .ref b145, .ref b139, .ref b139])) (fun _ kt_ => XS.dup X156.here hx rfl (hb hby own_d2_102) rfl rfl kt_) ?_
     refine own_by (T' := T156) (g' := (mkF m 104 #[.val (.int nn), .val (.int c0), .val (.int c1), .val (.int c2), .val (.int c3)] [.int 2, .ref b145, .ref b145, .ref b139, .ref b139])) (fun _ kt_ => XS.iconst X156.here hx rfl (hb hby own_d2_103) kt_) ?_
     refine own_by (T' := T156) (g' := (mkF m 105 #[.val (.int nn), .val (.int c0), .val (.int c1), .val (.int c2), .val (.int c3)] [.int c2, .int 2, .ref b145, .ref b145, .ref b139, .ref b139])) (fun _ kt_ => XS.iloadN X156.here hx rfl (hb hby own_d2_104) rfl kt_) ?_
     obtain ⟨cl162, Ar162, q162, S162, M162, H162, G162⟩ := id f160
     have hin162 : ¬ ((2 : Int32) < 0 ∨ cl162.slots.size ≤ ((2 : Int32)).toNatClampNeg) := inb_of S162 ⟨by decide, by decide⟩
     obtain ⟨T162, h162, X162, e162, W162, st162⟩ := stC X156 hx hZ e156 Ar162 (j := (2 : Int32)) hin162 (g := (mkF m 105 #[.val (.int nn), .val (.int c0), .val (.int c1), .val (.int c2), .val (.int c3)] [.int c2, .int 2, .ref b145, .ref b145, .ref b139, .ref b139])) rfl rfl (hb hby own_d2_105)
     rw [show nar .char c2 = c2 from own_narok ok2] at W162
     have K163 : Keep h156 h162 [b145] := Keep.of_wr W162
     have zzK163 : h156.size ≤ h162.size := K163.1
     have oo164 : Old Z n0 h162 := oo158.keep K163 (allS (by omega : n0 ≤ b145) all0)
     have kt165 : Keep h0 h162 [] := kt159.trans K163 (allS (Or.inr (by omega : h0.size ≤ b145)) all0)
     have f166 : Arv Z h162 b145 k145 .char (4 : Int32) [.int c0, .int c1, .int c2, .int 0] (.int 0) := Arv.set Ar162 q162 S162 M162 H162 G162 (own_fitok ok2) W162 2 rfl (Nat.le_of_ble_eq_true rfl)
     have N167 := Fr.snoc X162 N161 (by omega : n0 ≤ b145)
     refine own_by (T' := T162) (g' := (mkF m 106 #[.val (.int nn), .val (.int c0), .val (.int c1), .val (.int c2), .val (.int c3)] [.ref b145, .ref b139, .ref b139])) st162 ?_
     refine own_by (T' := T162) (g' := (mkF m 107 #[.val (.int nn), .val (.int c0), .val (.int c1), .val (.int c2), .val (.int c3)] [.ref b145, .ref b145, .ref b139, .ref b139])) (fun _ kt_ => XS.dup X162.here hx rfl (hb hby own_d2_106) rfl rfl kt_) ?_
     refine own_by (T' := T162) (g' := (mkF m 108 #[.val (.int nn), .val (.int c0), .val (.int c1), .val (.int c2), .val (.int c3)] [.int 3, .ref b145, .ref b145, .ref b139, .ref b139])) (fun _ kt_ => XS.iconst X162.here hx rfl (hb hby own_d2_107) kt_) ?_
     refine own_by (T' := T162) (g' := (mkF m 110 #[.val (.int nn), .val (.int c0), .val (.int c1), .val (.int c2), .val (.int c3)] [.int c3, .int 3, .ref b145, .ref b145, .ref b139, .ref b139])) (fun _ kt_ => XS.iload X162.here hx rfl (hb hby own_d2_108) rfl kt_) ?_
     obtain ⟨cl168, Ar168, q168, S168, M168, H168, G168⟩ := id f166
     have hin168 : ¬ ((3 : Int32) < 0 ∨ cl168.slots.size ≤ ((3 : Int32)).toNatClampNeg) := inb_of S168 ⟨by decide, by decide⟩
     obtain ⟨T168, h168, X168, e168, W168, st168⟩ := stC X162 hx hZ e162 Ar168 (j := (3 : Int32)) hin168 (g := (mkF m 110 #[.val (.int nn), .val (.int c0), .val (.int c1), .val (.int c2), .val (.int c3)] [.int c3, .int 3, .ref b145, .ref b145, .ref b139, .ref b139])) rfl rfl (hb hby own_d2_110)
     rw [show nar .char c3 = c3 from own_narok ok3] at W168
     have K169 : Keep h162 h168 [b145] := Keep.of_wr W168
     have zzK169 : h162.size ≤ h168.size := K169.1
     have oo170 : Old Z n0 h168 := oo164.keep K169 (allS (by omega : n0 ≤ b145) all0)
     have kt171 : Keep h0 h168 [] := kt165.trans K169 (allS (Or.inr (by omega : h0.size ≤ b145)) all0)
     have f172 : Arv Z h168 b145 k145 .char (4 : Int32) [.int c0, .int c1, .int c2, .int c3] (.int 0) := Arv.set Ar168 q168 S168 M168 H168 G168 (own_fitok ok3) W168 3 rfl (Nat.le_of_ble_eq_true rfl)
     have N173 := Fr.snoc X168 N167 (by omega : n0 ≤ b145)
     refine own_by (T' := T168) (g' := (mkF m 111 #[.val (.int nn), .val (.int c0), .val (.int c1), .val (.int c2), .val (.int c3)] [.ref b145, .ref b139, .ref b139])) st168 ?_
     have f174 : Exa Z h168 b139 "java/lang/String" := (((((A139.keep K146).keep K151).keep K157).keep K163).keep K169)
     have ne175 : @Ne Nat b139 b145 := by omega
     have f176 : Fld Z h168 b139 "java/lang/String" "value" "[B" .null := (((((f143.keep K146 nin0).keep K151 (ninS ne175 nin0)).keep K157 (ninS ne175 nin0)).keep K163 (ninS ne175 nin0)).keep K169 (ninS ne175 nin0))
     have f177 : Fld Z h168 b139 "java/lang/String" "coder" "B" (.int 0) := (((((f144.keep K146 nin0).keep K151 (ninS ne175 nin0)).keep K157 (ninS ne175 nin0)).keep K163 (ninS ne175 nin0)).keep K169 (ninS ne175 nin0))
     have ne178 : @Ne Nat b145 b139 := by omega
     obtain ⟨_, _, ⟨T179, L179, k179, n179⟩, -, X179, ⟨Lc179, hQ179, l179, y179, z179⟩, st179⟩ := X168.specialBack hx (y := (⟨"java/lang/String", "<init>", "([C)V"⟩ : MethodName)) rfl hown (mvT hZ (ww hw 11 rfl)) (mvT hZ (ww hw 12 rfl)) (mvT hZ (ww hw 13 rfl)) (by decide) (backOf (W := 1) (rmS1_4 l Z a0 hw [] zC vF hvF GS b139 b145 k145 c0 c1 c2 c3 h168 n0 (by omega) oo170 f174 (by omega) f176 f177 f172 ne178 ok0.2 ok1.2 ok2.2 ok3.2) hZ (ww hw 13 rfl) (ww hw 9 rfl) (by decide) (by decide)) (g := (mkF m 111 #[.val (.int nn), .val (.int c0), .val (.int c1), .val (.int c2), .val (.int c3)] [.ref b145, .ref b139, .ref b139])) rfl (by rw [hml]; rfl) (Steps.refl _) (a := b139) (argsL := [.ref b145]) (rest := [.ref b139]) (lenOf own_pd_4 rfl) rfl (by show 2 * 0 + _ ≤ _; exact Nat.le_of_eq rfl) (hb hby own_d2_111) (fun _ _ => ⟨rfl, e168, (by decide : 2 + 1 ≤ _), (by decide : 8 + 4 ≤ _)⟩)
     dsimp only [Pt.U, Pt.locs, Pt.cells, Pt.slots] at X179 l179 y179 z179 st179 hQ179
     subst l179 y179 z179
     obtain ⟨t_180, kB_181, rfl, N179q, K179, p179_0, p179_1, p179_2, p179_3⟩ := hQ179
     have N182 := Fr.app N173 N179q
     have gt_180 : h168.size ≤ t_180 := p179_0
     have zzK179 : h168.size ≤ T179.heap.size := K179.1
     have oo183 : Old Z n0 T179.heap := oo170.keep K179 (allS (by omega : n0 ≤ b139) all0)
     have kt184 : Keep h0 T179.heap [] := kt171.trans K179 (allS (Or.inr (by omega : h0.size ≤ b139)) all0)
     refine own_by (T' := T179) (g' := (mkF m 114 #[.val (.int nn), .val (.int c0), .val (.int c1), .val (.int c2), .val (.int c3)] [.ref b139])) (fun _ kt_ => st179.trans kt_) ?_
     have f185 : Arv Z T179.heap t_180 kB_181 .byte nn (bF nn c0 c1 c2 c3) (.int 0) := by rw [show nn = (4 : Int32) from (((hl.resolve_left hc1).resolve_left hc25).resolve_left hc57).resolve_left hc95, own_bF4]; exact p179_3
     have f186 : Exa Z T179.heap b139 "java/lang/String" := (f174.keep K179)
     obtain ⟨fs187, hr187, hrun187, hended187, hW187⟩ := X179.leaveW hS0 (by omega) (v := some (.ref b139)) (fun h => by rw [Bd.returns] at h; cases h)
     refine ⟨_, _, retOut X179 hx (t := (.object "java/lang/String")) Bd.returns rfl (Or.inr (Or.inr (Or.inr (Or.inr ⟨rfl, rfl, rfl⟩)))) (hb hby own_d2_114) hr187, hrun187, hended187, _, _, rfl, ?_, hW187.1, hW187.2.1, hW187.2.2.1, hW187.2.2.2.mono (by decide) (by decide)⟩
     show Q_rmBuild Z zC vF hvF nn c0 c1 c2 c3 h0 n0 _ T179.heap _
     exact ⟨b139, t_180, kB_181, rfl, N182, kt184, (by omega), f186, p179_1, p179_2, f185⟩
theorem own_d8_0 : decode jdk_42_method_152_code 0 = .ok (.getstatic 38, 3) := by decide +kernel
theorem own_d8_3 : decode jdk_42_method_152_code 3 = .ok (.ifCond .eq 10, 3) := by decide +kernel
theorem own_d8_6 : decode jdk_42_method_152_code 6 = .ok (.aload_n 0, 1) := by decide +kernel
theorem own_d8_7 : decode jdk_42_method_152_code 7 = .ok (.getfield 15, 3) := by decide +kernel
theorem own_d8_10 : decode jdk_42_method_152_code 10 = .ok (.goto 4, 3) := by decide +kernel
theorem own_d8_14 : decode jdk_42_method_152_code 14 = .ok (.ireturn, 1) := by decide +kernel
theorem own_ef_rmCoder (m : MethodId) (x0 : Addr) : entryFrame m #[.ref x0] 1 = mkF m 0 #[.val (.ref x0)] [] := by first | (simp [entryFrame, mkF, argsToLocals, Value.category]; done) | rfl
def Q_rmCoder (Z : State) (zC : Int32) (vF : Value) (hvF : vF.isRef = true) (x : Addr) (h0 : Heap) (n0 : Nat) (vv_ : Option Value) (hh_ : Heap) (LL_ : List Loc) : Prop := vv_ = some (.int 0) ∧ Fr n0 LL_ ∧ hh_ = h0
set_option maxRecDepth 65536 in
set_option maxHeartbeats 40000000 in
theorem rmCoder (l : Launch) (Z : State) (a0 : Array Value) (hw : ∀ d ∈ tables_1, d.before a0 Z = true) (ws : List Jvm.Cond) (zC : Int32) (vF : Value) (hvF : vF.isRef = true) (GS : Glob Z zC vF hvF) (x : Addr) (h0 : Heap) (n0 : Nat) (Z0 : n0 ≤ h0.size) (O0 : Old Z n0 h0) (Fc : Fld Z h0 x "java/lang/String" "coder" "B" (.int 0)) :
  MetFree l (⟨"java/lang/String", "coder", "()B"⟩ : MethodName) (head1 (Jvm.Cond.code (⟨"java/lang/String", "coder", "()B"⟩ : MethodName) jdk_42_method_152_code 1 (some .byte) :: ws) (⟨0, 0, 0, 0⟩ : Room)) (fun aa_ UU_ => aa_ = #[.ref x] ∧ Z.Warmed39 UU_.vm ∧ UU_.heap = h0) (fun _ _ _ _ _ => True) (fun _ UU_ oo_ UV_ => ∃ vv_ LL_, oo_ = .returned vv_ ∧ Q_rmCoder Z zC vF hvF x h0 n0 vv_ UV_.heap LL_ ∧ FrameEnd UU_ oo_ UV_ LL_ (⟨0, 0, 0, 0⟩ : Room).cells (⟨0, 0, 0, 0⟩ : Room).slots) := by
 refine MetFree.of_bodySF (plainFor_of_name own_pn_java_lang_String) hisR ?_
 intro p e s m args below meth c s₁ Bd hml0 hP hK
 obtain ⟨rfl, hZ, hh⟩ := hP
 have hx := Bd.exec
 have hby := Bd.bytes
 have hml : c.maxLocals = 1 := hml0
 have hown : s.vm.findClass "java/lang/String" = some m.cls := findClass_of_methodNamed Bd.named
 have hnm := (name_of_methodNamed Bd.named Bd.method).1
 have X0 : Stand p l e (⟨0, 0, 0, 0⟩ : Room) s m #[.ref x] below meth c s₁ [] 0 0 := Stand.of_body Bd
 have e0 : s₁.heap = h0 := by rw [← hh, Bd.state]; rfl
 have N0 := Fr.nil n0
 have hn0 : Z.heap.size = n0 := O0.1
 have KT0 : Keep h0 h0 [] := Keep.refl _ _
 refine own_enter (Φ := fun oo_ UV_ => ∃ vv_ LL_, oo_ = .returned vv_ ∧ Q_rmCoder Z zC vF hvF x h0 n0 vv_ UV_.heap LL_ ∧ FrameEnd s oo_ UV_ LL_ (⟨0, 0, 0, 0⟩ : Room).cells (⟨0, 0, 0, 0⟩ : Room).slots) (own_ef_rmCoder m x) ?_
 have f1 := GS.1.ext O0.2
 obtain ⟨T2, X2, e2, st2⟩ := getS2 X0 hx hZ hown (host := "") (Or.inl (ww hw 43 rfl)) Via.refl e0 f1 (g := (mkF m 0 #[.val (.ref x)] [])) rfl (hb hby own_d8_0)
 refine own_by (T' := T2) (g' := (mkF m 3 #[.val (.ref x)] [.int zC])) st2 ?_
 refine own_by (T' := T2) (g' := (mkF m 6 #[.val (.ref x)] [])) (fun _ kt_ => XS.ifNo X2.here hx rfl (hb hby own_d8_3) rfl (XT.i0_eq_f GS.2.1) kt_) ?_
 refine own_by (T' := T2) (g' := (mkF m 7 #[.val (.ref x)] [.ref x])) (fun _ kt_ => XS.aloadN X2.here hx rfl (hb hby own_d8_6) rfl rfl kt_) ?_
 obtain ⟨T3, X3, e3, st3⟩ := getF X2 hx hZ hown (host := "") (Or.inl (ww hw 28 rfl)) Via.refl e2 Fc (g := (mkF m 7 #[.val (.ref x)] [.ref x])) rfl rfl (hb hby own_d8_7)
 refine own_by (T' := T3) (g' := (mkF m 10 #[.val (.ref x)] [.int 0])) st3 ?_
 refine own_by (T' := T3) (g' := (mkF m 14 #[.val (.ref x)] [.int 0])) (fun _ kt_ => XS.goto X3.here hx rfl (pc0 := 10) (pc' := 14) rfl (hb hby own_d8_10) (by decide) (by decide) kt_) ?_
 have hn4 : nar .byte (0 : Int32) = (0 : Int32) := rfl
 obtain ⟨fs5, hr5, hrun5, hended5, hW5, hsame5⟩ := X3.leave (v := some (.int (nar .byte (0 : Int32)))) (fun h => by rw [Bd.returns] at h; cases h)
 refine ⟨_, _, retN X3 hx (t := .byte) Bd.returns (by simp) (hb hby own_d8_14) hr5, hrun5, hended5, _, _, rfl, ?_, ⟨_, rfl⟩, hW5, hsame5.mono (by decide) (by decide)⟩
 show Q_rmCoder Z zC vF hvF x h0 n0 _ T3.heap _
 exact ⟨(congrArg (fun z => some (Value.int z)) hn4), N0, e3⟩
theorem own_d14_0 : decode jdk_42_method_154_code 0 = .ok (.getstatic 38, 3) := by decide +kernel
theorem own_d14_3 : decode jdk_42_method_154_code 3 = .ok (.ifCond .eq 14, 3) := by decide +kernel
theorem own_d14_6 : decode jdk_42_method_154_code 6 = .ok (.aload_n 0, 1) := by decide +kernel
theorem own_d14_7 : decode jdk_42_method_154_code 7 = .ok (.getfield 15, 3) := by decide +kernel
theorem own_d14_10 : decode jdk_42_method_154_code 10 = .ok (.ifCond .ne 7, 3) := by decide +kernel
theorem own_d14_13 : decode jdk_42_method_154_code 13 = .ok (.iconst 1, 1) := by decide +kernel
theorem own_d14_14 : decode jdk_42_method_154_code 14 = .ok (.goto 4, 3) := by decide +kernel
theorem own_d14_18 : decode jdk_42_method_154_code 18 = .ok (.ireturn, 1) := by decide +kernel
theorem own_ef_rmLat (m : MethodId) (x0 : Addr) : entryFrame m #[.ref x0] 1 = mkF m 0 #[.val (.ref x0)] [] := by first | (simp [entryFrame, mkF, argsToLocals, Value.category]; done) | rfl
def Q_rmLat (Z : State) (zC : Int32) (vF : Value) (hvF : vF.isRef = true) (x : Addr) (h0 : Heap) (n0 : Nat) (vv_ : Option Value) (hh_ : Heap) (LL_ : List Loc) : Prop := vv_ = some (.int 1) ∧ Fr n0 LL_ ∧ hh_ = h0
set_option maxRecDepth 65536 in
set_option maxHeartbeats 40000000 in
theorem rmLat (l : Launch) (Z : State) (a0 : Array Value) (hw : ∀ d ∈ tables_1, d.before a0 Z = true) (ws : List Jvm.Cond) (zC : Int32) (vF : Value) (hvF : vF.isRef = true) (GS : Glob Z zC vF hvF) (x : Addr) (h0 : Heap) (n0 : Nat) (Z0 : n0 ≤ h0.size) (O0 : Old Z n0 h0) (Fc : Fld Z h0 x "java/lang/String" "coder" "B" (.int 0)) :
  MetFree l (⟨"java/lang/String", "isLatin1", "()Z"⟩ : MethodName) (head1 (Jvm.Cond.code (⟨"java/lang/String", "isLatin1", "()Z"⟩ : MethodName) jdk_42_method_154_code 1 (some .boolean) :: ws) (⟨0, 0, 0, 0⟩ : Room)) (fun aa_ UU_ => aa_ = #[.ref x] ∧ Z.Warmed39 UU_.vm ∧ UU_.heap = h0) (fun _ _ _ _ _ => True) (fun _ UU_ oo_ UV_ => ∃ vv_ LL_, oo_ = .returned vv_ ∧ Q_rmLat Z zC vF hvF x h0 n0 vv_ UV_.heap LL_ ∧ FrameEnd UU_ oo_ UV_ LL_ (⟨0, 0, 0, 0⟩ : Room).cells (⟨0, 0, 0, 0⟩ : Room).slots) := by
 refine MetFree.of_bodySF (plainFor_of_name own_pn_java_lang_String) hisR ?_
 intro p e s m args below meth c s₁ Bd hml0 hP hK
 obtain ⟨rfl, hZ, hh⟩ := hP
 have hx := Bd.exec
 have hby := Bd.bytes
 have hml : c.maxLocals = 1 := hml0
 have hown : s.vm.findClass "java/lang/String" = some m.cls := findClass_of_methodNamed Bd.named
 have hnm := (name_of_methodNamed Bd.named Bd.method).1
 have X0 : Stand p l e (⟨0, 0, 0, 0⟩ : Room) s m #[.ref x] below meth c s₁ [] 0 0 := Stand.of_body Bd
 have e0 : s₁.heap = h0 := by rw [← hh, Bd.state]; rfl
 have N0 := Fr.nil n0
 have hn0 : Z.heap.size = n0 := O0.1
 have KT0 : Keep h0 h0 [] := Keep.refl _ _
 refine own_enter (Φ := fun oo_ UV_ => ∃ vv_ LL_, oo_ = .returned vv_ ∧ Q_rmLat Z zC vF hvF x h0 n0 vv_ UV_.heap LL_ ∧ FrameEnd s oo_ UV_ LL_ (⟨0, 0, 0, 0⟩ : Room).cells (⟨0, 0, 0, 0⟩ : Room).slots) (own_ef_rmLat m x) ?_
 have f1 := GS.1.ext O0.2
 obtain ⟨T2, X2, e2, st2⟩ := getS2 X0 hx hZ hown (host := "") (Or.inl (ww hw 43 rfl)) Via.refl e0 f1 (g := (mkF m 0 #[.val (.ref x)] [])) rfl (hb hby own_d14_0)
 refine own_by (T' := T2) (g' := (mkF m 3 #[.val (.ref x)] [.int zC])) st2 ?_
 refine own_by (T' := T2) (g' := (mkF m 6 #[.val (.ref x)] [])) (fun _ kt_ => XS.ifNo X2.here hx rfl (hb hby own_d14_3) rfl (XT.i0_eq_f GS.2.1) kt_) ?_
 refine own_by (T' := T2) (g' := (mkF m 7 #[.val (.ref x)] [.ref x])) (fun _ kt_ => XS.aloadN X2.here hx rfl (hb hby own_d14_6) rfl rfl kt_) ?_
 obtain ⟨T3, X3, e3, st3⟩ := getF X2 hx hZ hown (host := "") (Or.inl (ww hw 28 rfl)) Via.refl e2 Fc (g := (mkF m 7 #[.val (.ref x)] [.ref x])) rfl rfl (hb hby own_d14_7)
 refine own_by (T' := T3) (g' := (mkF m 10 #[.val (.ref x)] [.int 0])) st3 ?_
 refine own_by (T' := T3) (g' := (mkF m 13 #[.val (.ref x)] [])) (fun _ kt_ => XS.ifNo X3.here hx rfl (hb hby own_d14_10) rfl (XT.i0_ne_f (by decide)) kt_) ?_
 refine own_by (T' := T3) (g' := (mkF m 14 #[.val (.ref x)] [.int 1])) (fun _ kt_ => XS.iconst X3.here hx rfl (hb hby own_d14_13) kt_) ?_
 refine own_by (T' := T3) (g' := (mkF m 18 #[.val (.ref x)] [.int 1])) (fun _ kt_ => XS.goto X3.here hx rfl (pc0 := 14) (pc' := 18) rfl (hb hby own_d14_14) (by decide) (by decide) kt_) ?_
 have hn4 : nar .boolean (1 : Int32) = (1 : Int32) := rfl
 obtain ⟨fs5, hr5, hrun5, hended5, hW5, hsame5⟩ := X3.leave (v := some (.int (nar .boolean (1 : Int32)))) (fun h => by rw [Bd.returns] at h; cases h)
 refine ⟨_, _, retN X3 hx (t := .boolean) Bd.returns (by simp) (hb hby own_d14_18) hr5, hrun5, hended5, _, _, rfl, ?_, ⟨_, rfl⟩, hW5, hsame5.mono (by decide) (by decide)⟩
 show Q_rmLat Z zC vF hvF x h0 n0 _ T3.heap _
 exact ⟨(congrArg (fun z => some (Value.int z)) hn4), N0, e3⟩
theorem own_d17_0 : decode jdk_41_method_11_code 0 = .ok (.iload_n 0, 1) := by decide +kernel
theorem own_d17_1 : decode jdk_41_method_11_code 1 = .ok (.ifCond .lt 8, 3) := by decide +kernel
theorem own_d17_4 : decode jdk_41_method_11_code 4 = .ok (.iload_n 0, 1) := by decide +kernel
theorem own_d17_5 : decode jdk_41_method_11_code 5 = .ok (.iload_n 1, 1) := by decide +kernel
theorem own_d17_6 : decode jdk_41_method_11_code 6 = .ok (.if_icmp .lt 10, 3) := by decide +kernel
theorem own_d17_16 : decode jdk_41_method_11_code 16 = .ok (.iload_n 0, 1) := by decide +kernel
theorem own_d17_17 : decode jdk_41_method_11_code 17 = .ok (.ireturn, 1) := by decide +kernel
theorem own_pn_jdk_internal_util_Preconditions : plainName "jdk/internal/util/Preconditions" = true := by first | (simp [plainName, overriddenIn]; done) | decide +kernel
theorem own_ef_rmPci (m : MethodId) (x0 : Int32) (x1 : Int32) (x2 : Value) (hx2 : x2.isRef = true) : entryFrame m #[.int x0, .int x1, x2] 3 = mkF m 0 #[.val (.int x0), .val (.int x1), .val x2] [] := by
 rcases ref_cases hx2 with rfl | ⟨_, rfl⟩ <;> first | (simp [entryFrame, mkF, argsToLocals, Value.category]; done) | rfl
def Q_rmPci (Z : State) (zC : Int32) (vF : Value) (hvF : vF.isRef = true) (i : Int32) (z : Int32) (vf : Value) (hvf : vf.isRef = true) (h0 : Heap) (n0 : Nat) (vv_ : Option Value) (hh_ : Heap) (LL_ : List Loc) : Prop := vv_ = some (.int i) ∧ Fr n0 LL_ ∧ hh_ = h0
set_option maxRecDepth 65536 in
set_option maxHeartbeats 40000000 in
theorem rmPci (l : Launch) (Z : State) (a0 : Array Value) (hw : ∀ d ∈ tables_1, d.before a0 Z = true) (ws : List Jvm.Cond) (zC : Int32) (vF : Value) (hvF : vF.isRef = true) (GS : Glob Z zC vF hvF) (i : Int32) (z : Int32) (vf : Value) (hvf : vf.isRef = true) (h0 : Heap) (n0 : Nat) (Z0 : n0 ≤ h0.size) (O0 : Old Z n0 h0) (h1 : ¬ i < (0 : Int32)) (h2 : i < z) :
  MetFree l (⟨"jdk/internal/util/Preconditions", "checkIndex", "(IILjava/util/function/BiFunction;)I"⟩ : MethodName) (head1 (Jvm.Cond.code (⟨"jdk/internal/util/Preconditions", "checkIndex", "(IILjava/util/function/BiFunction;)I"⟩ : MethodName) jdk_41_method_11_code 3 (some .int) :: ws) (⟨0, 0, 0, 0⟩ : Room)) (fun aa_ UU_ => aa_ = #[.int i, .int z, vf] ∧ Z.Warmed39 UU_.vm ∧ UU_.heap = h0) (fun _ _ _ _ _ => True) (fun _ UU_ oo_ UV_ => ∃ vv_ LL_, oo_ = .returned vv_ ∧ Q_rmPci Z zC vF hvF i z vf hvf h0 n0 vv_ UV_.heap LL_ ∧ FrameEnd UU_ oo_ UV_ LL_ (⟨0, 0, 0, 0⟩ : Room).cells (⟨0, 0, 0, 0⟩ : Room).slots) := by
 refine MetFree.of_bodySF (plainFor_of_name own_pn_jdk_internal_util_Preconditions) hisR ?_
 intro p e s m args below meth c s₁ Bd hml0 hP hK
 obtain ⟨rfl, hZ, hh⟩ := hP
 have hx := Bd.exec
 have hby := Bd.bytes
 have hml : c.maxLocals = 3 := hml0
 have hown : s.vm.findClass "jdk/internal/util/Preconditions" = some m.cls := findClass_of_methodNamed Bd.named
 have hnm := (name_of_methodNamed Bd.named Bd.method).1
 have X0 : Stand p l e (⟨0, 0, 0, 0⟩ : Room) s m #[.int i, .int z, vf] below meth c s₁ [] 0 0 := Stand.of_body Bd
 have e0 : s₁.heap = h0 := by rw [← hh, Bd.state]; rfl
 have N0 := Fr.nil n0
 have hn0 : Z.heap.size = n0 := O0.1
 have KT0 : Keep h0 h0 [] := Keep.refl _ _
 refine own_enter (Φ := fun oo_ UV_ => ∃ vv_ LL_, oo_ = .returned vv_ ∧ Q_rmPci Z zC vF hvF i z vf hvf h0 n0 vv_ UV_.heap LL_ ∧ FrameEnd s oo_ UV_ LL_ (⟨0, 0, 0, 0⟩ : Room).cells (⟨0, 0, 0, 0⟩ : Room).slots) (own_ef_rmPci m i z vf hvf) ?_
 refine own_by (T' := s₁) (g' := (mkF m 1 #[.val (.int i), .val (.int z), .val vf] [.int i])) (fun _ kt_ => XS.iloadN X0.here hx rfl (hb hby own_d17_0) rfl kt_) ?_
 refine own_by (T' := s₁) (g' := (mkF m 4 #[.val (.int i), .val (.int z), .val vf] [])) (fun _ kt_ => XS.ifNo X0.here hx rfl (hb hby own_d17_1) rfl (XT.i0_lt_f h1) kt_) ?_
 refine own_by (T' := s₁) (g' := (mkF m 5 #[.val (.int i), .val (.int z), .val vf] [.int i])) (fun _ kt_ => XS.iloadN X0.here hx rfl (hb hby own_d17_4) rfl kt_) ?_
 refine own_by (T' := s₁) (g' := (mkF m 6 #[.val (.int i), .val (.int z), .val vf] [.int z, .int i])) (fun _ kt_ => XS.iloadN X0.here hx rfl (hb hby own_d17_5) rfl kt_) ?_
 refine own_by (T' := s₁) (g' := (mkF m 16 #[.val (.int i), .val (.int z), .val vf] [])) (fun _ kt_ => XS.icmpYes X0.here hx rfl (pc0 := 6) (pc' := 16) rfl (hb hby own_d17_6) rfl (XT.ii_lt_t h2) (by decide) (by decide) kt_) ?_
 refine own_by (T' := s₁) (g' := (mkF m 17 #[.val (.int i), .val (.int z), .val vf] [.int i])) (fun _ kt_ => XS.iloadN X0.here hx rfl (hb hby own_d17_16) rfl kt_) ?_
 obtain ⟨fs1, hr1, hrun1, hended1, hW1, hsame1⟩ := X0.leave (v := some (.int i)) (fun h => by rw [Bd.returns] at h; cases h)
 refine ⟨_, _, retOut X0 hx (t := .int) Bd.returns rfl (Or.inl ⟨rfl, Or.inl rfl, _, rfl⟩) (hb hby own_d17_17) hr1, hrun1, hended1, _, _, rfl, ?_, ⟨_, rfl⟩, hW1, hsame1.mono (by decide) (by decide)⟩
 show Q_rmPci Z zC vF hvF i z vf hvf h0 n0 _ s₁.heap _
 exact ⟨rfl, N0, e0⟩
theorem own_pd_5 : parseMethodDescriptor "(IILjava/util/function/BiFunction;)I" = some ⟨[.int, .int, (.object "java/util/function/BiFunction")], some .int⟩ := by decide +kernel
theorem own_d16_0 : decode jdk_42_method_155_code 0 = .ok (.iload_n 0, 1) := by decide +kernel
theorem own_d16_1 : decode jdk_42_method_155_code 1 = .ok (.iload_n 1, 1) := by decide +kernel
theorem own_d16_2 : decode jdk_42_method_155_code 2 = .ok (.getstatic 1053, 3) := by decide +kernel
theorem own_d16_5 : decode jdk_42_method_155_code 5 = .ok (.invokestatic 1059, 3) := by decide +kernel
theorem own_d16_8 : decode jdk_42_method_155_code 8 = .ok (.pop, 1) := by decide +kernel
theorem own_d16_9 : decode jdk_42_method_155_code 9 = .ok (.return_, 1) := by decide +kernel
theorem own_ef_rmCi (m : MethodId) (x0 : Int32) (x1 : Int32) : entryFrame m #[.int x0, .int x1] 2 = mkF m 0 #[.val (.int x0), .val (.int x1)] [] := by first | (simp [entryFrame, mkF, argsToLocals, Value.category]; done) | rfl
def Q_rmCi (Z : State) (zC : Int32) (vF : Value) (hvF : vF.isRef = true) (i : Int32) (z : Int32) (h0 : Heap) (n0 : Nat) (vv_ : Option Value) (hh_ : Heap) (LL_ : List Loc) : Prop := vv_ = none ∧ Fr n0 LL_ ∧ hh_ = h0
set_option maxRecDepth 65536 in
set_option maxHeartbeats 40000000 in
theorem rmCi (l : Launch) (Z : State) (a0 : Array Value) (hw : ∀ d ∈ tables_1, d.before a0 Z = true) (ws : List Jvm.Cond) (zC : Int32) (vF : Value) (hvF : vF.isRef = true) (GS : Glob Z zC vF hvF) (i : Int32) (z : Int32) (h0 : Heap) (n0 : Nat) (Z0 : n0 ≤ h0.size) (O0 : Old Z n0 h0) (h1 : ¬ i < (0 : Int32)) (h2 : i < z) :
  MetFree l (⟨"java/lang/String", "checkIndex", "(II)V"⟩ : MethodName) (head1 (Jvm.Cond.code (⟨"java/lang/String", "checkIndex", "(II)V"⟩ : MethodName) jdk_42_method_155_code 2 none :: ws) (⟨1, 0, 0, 14⟩ : Room)) (fun aa_ UU_ => aa_ = #[.int i, .int z] ∧ Z.Warmed39 UU_.vm ∧ UU_.heap = h0) (fun _ _ _ _ _ => True) (fun _ UU_ oo_ UV_ => ∃ vv_ LL_, oo_ = .returned vv_ ∧ Q_rmCi Z zC vF hvF i z h0 n0 vv_ UV_.heap LL_ ∧ FrameEnd UU_ oo_ UV_ LL_ (⟨1, 0, 0, 14⟩ : Room).cells (⟨1, 0, 0, 14⟩ : Room).slots) := by
 refine MetFree.of_bodySF (plainFor_of_name own_pn_java_lang_String) hisR ?_
 intro p e s m args below meth c s₁ Bd hml0 hP hK
 obtain ⟨rfl, hZ, hh⟩ := hP
 have hx := Bd.exec
 have hby := Bd.bytes
 have hml : c.maxLocals = 2 := hml0
 have hown : s.vm.findClass "java/lang/String" = some m.cls := findClass_of_methodNamed Bd.named
 have hnm := (name_of_methodNamed Bd.named Bd.method).1
 have X0 : Stand p l e (⟨1, 0, 0, 14⟩ : Room) s m #[.int i, .int z] below meth c s₁ [] 0 0 := Stand.of_body Bd
 have e0 : s₁.heap = h0 := by rw [← hh, Bd.state]; rfl
 have N0 := Fr.nil n0
 have hn0 : Z.heap.size = n0 := O0.1
 have KT0 : Keep h0 h0 [] := Keep.refl _ _
 refine own_enter (Φ := fun oo_ UV_ => ∃ vv_ LL_, oo_ = .returned vv_ ∧ Q_rmCi Z zC vF hvF i z h0 n0 vv_ UV_.heap LL_ ∧ FrameEnd s oo_ UV_ LL_ (⟨1, 0, 0, 14⟩ : Room).cells (⟨1, 0, 0, 14⟩ : Room).slots) (own_ef_rmCi m i z) ?_
 refine own_by (T' := s₁) (g' := (mkF m 1 #[.val (.int i), .val (.int z)] [.int i])) (fun _ kt_ => XS.iloadN X0.here hx rfl (hb hby own_d16_0) rfl kt_) ?_
 refine own_by (T' := s₁) (g' := (mkF m 2 #[.val (.int i), .val (.int z)] [.int z, .int i])) (fun _ kt_ => XS.iloadN X0.here hx rfl (hb hby own_d16_1) rfl kt_) ?_
 have f1 := GS.2.2.1.ext O0.2
 obtain ⟨T2, X2, e2, st2⟩ := getS2 X0 hx hZ hown (host := "") (Or.inl (ww hw 74 rfl)) Via.refl e0 f1 (g := (mkF m 2 #[.val (.int i), .val (.int z)] [.int z, .int i])) rfl (hb hby own_d16_2)
 refine own_by (T' := T2) (g' := (mkF m 5 #[.val (.int i), .val (.int z)] [vF, .int z, .int i])) st2 ?_
 obtain ⟨_, _, ⟨T3, L3, k3, n3⟩, -, X3, ⟨Lc3, hQ3, l3, y3, z3⟩, st3⟩ := Jvm.LawKit.callS X2 hx (y := (⟨"jdk/internal/util/Preconditions", "checkIndex", "(IILjava/util/function/BiFunction;)I"⟩ : MethodName)) hown (mvT hZ (ww hw 76 rfl)) (mvT hZ (ww hw 77 rfl)) (mvT hZ (ww hw 75 rfl)) (mvT hZ (ww hw 78 rfl)) (by decide) (backOf (W := 0) (rmPci l Z a0 hw [] zC vF hvF GS i z vF hvF h0 n0 (by omega) O0 h1 h2) hZ (ww hw 78 rfl) (ww hw 75 rfl) (by decide) (by decide)) (g := (mkF m 5 #[.val (.int i), .val (.int z)] [vF, .int z, .int i])) rfl (by rw [hml]; rfl) (argsL := [.int i, .int z, vF]) (rest := []) (lenOf own_pd_5 rfl) rfl (by show 2 * 0 + _ ≤ _; exact Nat.le_of_eq rfl) (hb hby own_d16_5) (fun _ _ => ⟨rfl, e2, (by decide : 0 + 0 ≤ _), (by decide : 0 + 0 ≤ _)⟩)
 dsimp only [Pt.U, Pt.locs, Pt.cells, Pt.slots] at X3 l3 y3 z3 st3 hQ3
 subst l3 y3 z3
 obtain ⟨rfl, N3q, e3⟩ := hQ3
 have N4 := Fr.app N0 N3q
 refine own_by (T' := T3) (g' := (mkF m 8 #[.val (.int i), .val (.int z)] [.int i])) st3 ?_
 refine own_by (T' := T3) (g' := (mkF m 9 #[.val (.int i), .val (.int z)] [])) (fun _ kt_ => XS.pop X3.here hx rfl (hb hby own_d16_8) rfl rfl kt_) ?_
 obtain ⟨fs5, hr5, hrun5, hended5, hW5, hsame5⟩ := X3.leave (v := none) (fun _ => rfl)
 refine ⟨_, _, X3.returnOut hx Bd.returns (hb hby own_d16_9) hr5, hrun5, hended5, _, _, rfl, ?_, ⟨_, rfl⟩, hW5, hsame5.mono (by decide) (by decide)⟩
 show Q_rmCi Z zC vF hvF i z h0 n0 _ T3.heap _
 exact ⟨rfl, N4, e3⟩
theorem own_pd_6 : parseMethodDescriptor "()B" = some ⟨[], some .byte⟩ := by decide +kernel
theorem own_d7_0 : decode jdk_42_method_54_code 0 = .ok (.aload_n 0, 1) := by decide +kernel
theorem own_d7_1 : decode jdk_42_method_54_code 1 = .ok (.getfield 9, 3) := by decide +kernel
theorem own_d7_4 : decode jdk_42_method_54_code 4 = .ok (.arraylength, 1) := by decide +kernel
theorem own_d7_5 : decode jdk_42_method_54_code 5 = .ok (.aload_n 0, 1) := by decide +kernel
theorem own_d7_6 : decode jdk_42_method_54_code 6 = .ok (.invokevirtual 335, 3) := by decide +kernel
theorem own_d7_9 : decode jdk_42_method_54_code 9 = .ok (.ishr, 1) := by decide +kernel
theorem own_d7_10 : decode jdk_42_method_54_code 10 = .ok (.ireturn, 1) := by decide +kernel
theorem own_ef_rmLen_0 (m : MethodId) (x0 : Addr) : entryFrame m #[.ref x0] 1 = mkF m 0 #[.val (.ref x0)] [] := by first | (simp [entryFrame, mkF, argsToLocals, Value.category]; done) | rfl
def Q_rmLen_0 (Z : State) (zC : Int32) (vF : Value) (hvF : vF.isRef = true) (x : Addr) (t : Addr) (kB : ClassId) (h0 : Heap) (n0 : Nat) (vv_ : Option Value) (hh_ : Heap) (LL_ : List Loc) : Prop := vv_ = some (.int 0) ∧ Fr n0 LL_ ∧ hh_ = h0
set_option maxRecDepth 65536 in
set_option maxHeartbeats 40000000 in
theorem rmLen_0 (l : Launch) (Z : State) (a0 : Array Value) (hw : ∀ d ∈ tables_1, d.before a0 Z = true) (ws : List Jvm.Cond) (zC : Int32) (vF : Value) (hvF : vF.isRef = true) (GS : Glob Z zC vF hvF) (x : Addr) (t : Addr) (kB : ClassId) (h0 : Heap) (n0 : Nat) (Z0 : n0 ≤ h0.size) (O0 : Old Z n0 h0) (E_x : Exa Z h0 x "java/lang/String") (Fv : Fld Z h0 x "java/lang/String" "value" "[B" (.ref t)) (Fc : Fld Z h0 x "java/lang/String" "coder" "B" (.int 0)) (Vt : Arv Z h0 t kB .byte (0 : Int32) [] (.int 0)) :
  MetFree l (⟨"java/lang/String", "length", "()I"⟩ : MethodName) (head1 (Jvm.Cond.code (⟨"java/lang/String", "length", "()I"⟩ : MethodName) jdk_42_method_54_code 1 (some .int) :: ws) (⟨1, 0, 0, 13⟩ : Room)) (fun aa_ UU_ => aa_ = #[.ref x] ∧ Z.Warmed39 UU_.vm ∧ UU_.heap = h0) (fun _ _ _ _ _ => True) (fun _ UU_ oo_ UV_ => ∃ vv_ LL_, oo_ = .returned vv_ ∧ Q_rmLen_0 Z zC vF hvF x t kB h0 n0 vv_ UV_.heap LL_ ∧ FrameEnd UU_ oo_ UV_ LL_ (⟨1, 0, 0, 13⟩ : Room).cells (⟨1, 0, 0, 13⟩ : Room).slots) := by
 refine MetFree.of_bodySF (plainFor_of_name own_pn_java_lang_String) hisR ?_
 intro p e s m args below meth c s₁ Bd hml0 hP hK
 obtain ⟨rfl, hZ, hh⟩ := hP
 have hx := Bd.exec
 have hby := Bd.bytes
 have hml : c.maxLocals = 1 := hml0
 have hown : s.vm.findClass "java/lang/String" = some m.cls := findClass_of_methodNamed Bd.named
 have hnm := (name_of_methodNamed Bd.named Bd.method).1
 have X0 : Stand p l e (⟨1, 0, 0, 13⟩ : Room) s m #[.ref x] below meth c s₁ [] 0 0 := Stand.of_body Bd
 have e0 : s₁.heap = h0 := by rw [← hh, Bd.state]; rfl
 have N0 := Fr.nil n0
 have hn0 : Z.heap.size = n0 := O0.1
 have KT0 : Keep h0 h0 [] := Keep.refl _ _
 refine own_enter (Φ := fun oo_ UV_ => ∃ vv_ LL_, oo_ = .returned vv_ ∧ Q_rmLen_0 Z zC vF hvF x t kB h0 n0 vv_ UV_.heap LL_ ∧ FrameEnd s oo_ UV_ LL_ (⟨1, 0, 0, 13⟩ : Room).cells (⟨1, 0, 0, 13⟩ : Room).slots) (own_ef_rmLen_0 m x) ?_
 refine own_by (T' := s₁) (g' := (mkF m 1 #[.val (.ref x)] [.ref x])) (fun _ kt_ => XS.aloadN X0.here hx rfl (hb hby own_d7_0) rfl rfl kt_) ?_
 obtain ⟨T1, X1, e1, st1⟩ := getF X0 hx hZ hown (host := "") (Or.inl (ww hw 27 rfl)) Via.refl e0 Fv (g := (mkF m 1 #[.val (.ref x)] [.ref x])) rfl rfl (hb hby own_d7_1)
 refine own_by (T' := T1) (g' := (mkF m 4 #[.val (.ref x)] [.ref t])) st1 ?_
 obtain ⟨cl2, Ar2, q2, S2, M2, H2, G2⟩ := id Vt
 refine own_by (T' := T1) (g' := (mkF m 5 #[.val (.ref x)] [.int 0])) (fun _ kt_ => X1.arraylength hx (by rw [e1]; exact Ar2.1) (State.isArrayOf_alike hZ.alike Ar2.2.1) (g := (mkF m 4 #[.val (.ref x)] [.ref t])) rfl rfl (hb hby own_d7_4) _ (by rw [len_of S2 M2]; exact kt_)) ?_
 refine own_by (T' := T1) (g' := (mkF m 6 #[.val (.ref x)] [.ref x, .int 0])) (fun _ kt_ => XS.aloadN X1.here hx rfl (hb hby own_d7_5) rfl rfl kt_) ?_
 obtain ⟨cq3, kq3, q3a, q3b, q3c⟩ := isOf hZ e1 E_x
 obtain ⟨_, _, ⟨T3, L3, k3, n3⟩, -, X3, ⟨Lc3, hQ3, l3, y3, z3⟩, st3⟩ := X1.virtualBack hx (y := (⟨"java/lang/String", "coder", "()B"⟩ : MethodName)) (z := (⟨"java/lang/String", "coder", "()B"⟩ : MethodName)) hown (mvT hZ (ww hw 38 rfl)) (mvT hZ (ww hw 39 rfl)) (notFace_of_selects (args := #[]) (mvT hZ (ww hw 41 rfl))) (mvT hZ (ww hw 41 rfl)) (mvT hZ (ww hw 40 rfl)) (by decide) (backOf (W := 1) (rmCoder l Z a0 hw [] zC vF hvF GS x h0 n0 (by omega) O0 Fc) hZ (ww hw 42 rfl) (ww hw 9 rfl) (by decide) (by decide)) q3a q3c (g := (mkF m 6 #[.val (.ref x)] [.ref x, .int 0])) rfl (by rw [hml]; rfl) (Steps.refl _) (argsL := []) (rest := [.int 0]) (lenOf own_pd_6 rfl) rfl (by show 2 * 0 + _ ≤ _; exact Nat.le_of_eq rfl) (hb hby own_d7_6) (fun _ _ => ⟨rfl, e1, (by decide : 0 + 0 ≤ _), (by decide : 0 + 0 ≤ _)⟩)
 dsimp only [Pt.U, Pt.locs, Pt.cells, Pt.slots] at X3 l3 y3 z3 st3 hQ3
 subst l3 y3 z3
 obtain ⟨rfl, N3q, e3⟩ := hQ3
 have N4 := Fr.app N0 N3q
 refine own_by (T' := T3) (g' := (mkF m 9 #[.val (.ref x)] [.int 0, .int 0])) (fun _ kt_ => st3.trans kt_) ?_
 refine own_by (T' := T3) (g' := (mkF m 10 #[.val (.ref x)] [(.int ((0 : Int32) >>> ((0 : Int32) &&& 31)))])) (fun _ kt_ => XS.ishr X3.here hx rfl (hb hby own_d7_9) rfl kt_) ?_
 have hr5 : ((0 : Int32) >>> ((0 : Int32) &&& 31)) = (0 : Int32) := by decide
 obtain ⟨fs6, hr6, hrun6, hended6, hW6, hsame6⟩ := X3.leave (v := some (.int ((0 : Int32) >>> ((0 : Int32) &&& 31)))) (fun h => by rw [Bd.returns] at h; cases h)
 refine ⟨_, _, retOut X3 hx (t := .int) Bd.returns rfl (Or.inl ⟨rfl, Or.inl rfl, _, rfl⟩) (hb hby own_d7_10) hr6, hrun6, hended6, _, _, rfl, ?_, ⟨_, rfl⟩, hW6, hsame6.mono (by decide) (by decide)⟩
 show Q_rmLen_0 Z zC vF hvF x t kB h0 n0 _ T3.heap _
 exact ⟨(congrArg (fun z => some (Value.int z)) hr5), N4, e3⟩
theorem own_ef_rmLen_1 (m : MethodId) (x0 : Addr) : entryFrame m #[.ref x0] 1 = mkF m 0 #[.val (.ref x0)] [] := by first | (simp [entryFrame, mkF, argsToLocals, Value.category]; done) | rfl
def Q_rmLen_1 (Z : State) (zC : Int32) (vF : Value) (hvF : vF.isRef = true) (x : Addr) (t : Addr) (kB : ClassId) (c0 : Int32) (h0 : Heap) (n0 : Nat) (vv_ : Option Value) (hh_ : Heap) (LL_ : List Loc) : Prop := vv_ = some (.int 1) ∧ Fr n0 LL_ ∧ hh_ = h0
set_option maxRecDepth 65536 in
set_option maxHeartbeats 40000000 in
theorem rmLen_1 (l : Launch) (Z : State) (a0 : Array Value) (hw : ∀ d ∈ tables_1, d.before a0 Z = true) (ws : List Jvm.Cond) (zC : Int32) (vF : Value) (hvF : vF.isRef = true) (GS : Glob Z zC vF hvF) (x : Addr) (t : Addr) (kB : ClassId) (c0 : Int32) (h0 : Heap) (n0 : Nat) (Z0 : n0 ≤ h0.size) (O0 : Old Z n0 h0) (E_x : Exa Z h0 x "java/lang/String") (Fv : Fld Z h0 x "java/lang/String" "value" "[B" (.ref t)) (Fc : Fld Z h0 x "java/lang/String" "coder" "B" (.int 0)) (Vt : Arv Z h0 t kB .byte (1 : Int32) [(.int c0.toInt8.toInt32)] (.int 0)) :
  MetFree l (⟨"java/lang/String", "length", "()I"⟩ : MethodName) (head1 (Jvm.Cond.code (⟨"java/lang/String", "length", "()I"⟩ : MethodName) jdk_42_method_54_code 1 (some .int) :: ws) (⟨1, 0, 0, 13⟩ : Room)) (fun aa_ UU_ => aa_ = #[.ref x] ∧ Z.Warmed39 UU_.vm ∧ UU_.heap = h0) (fun _ _ _ _ _ => True) (fun _ UU_ oo_ UV_ => ∃ vv_ LL_, oo_ = .returned vv_ ∧ Q_rmLen_1 Z zC vF hvF x t kB c0 h0 n0 vv_ UV_.heap LL_ ∧ FrameEnd UU_ oo_ UV_ LL_ (⟨1, 0, 0, 13⟩ : Room).cells (⟨1, 0, 0, 13⟩ : Room).slots) := by
 refine MetFree.of_bodySF (plainFor_of_name own_pn_java_lang_String) hisR ?_
 intro p e s m args below meth c s₁ Bd hml0 hP hK
 obtain ⟨rfl, hZ, hh⟩ := hP
 have hx := Bd.exec
 have hby := Bd.bytes
 have hml : c.maxLocals = 1 := hml0
 have hown : s.vm.findClass "java/lang/String" = some m.cls := findClass_of_methodNamed Bd.named
 have hnm := (name_of_methodNamed Bd.named Bd.method).1
 have X0 : Stand p l e (⟨1, 0, 0, 13⟩ : Room) s m #[.ref x] below meth c s₁ [] 0 0 := Stand.of_body Bd
 have e0 : s₁.heap = h0 := by rw [← hh, Bd.state]; rfl
 have N0 := Fr.nil n0
 have hn0 : Z.heap.size = n0 := O0.1
 have KT0 : Keep h0 h0 [] := Keep.refl _ _
 refine own_enter (Φ := fun oo_ UV_ => ∃ vv_ LL_, oo_ = .returned vv_ ∧ Q_rmLen_1 Z zC vF hvF x t kB c0 h0 n0 vv_ UV_.heap LL_ ∧ FrameEnd s oo_ UV_ LL_ (⟨1, 0, 0, 13⟩ : Room).cells (⟨1, 0, 0, 13⟩ : Room).slots) (own_ef_rmLen_1 m x) ?_
 refine own_by (T' := s₁) (g' := (mkF m 1 #[.val (.ref x)] [.ref x])) (fun _ kt_ => XS.aloadN X0.here hx rfl (hb hby own_d7_0) rfl rfl kt_) ?_
 obtain ⟨T1, X1, e1, st1⟩ := getF X0 hx hZ hown (host := "") (Or.inl (ww hw 27 rfl)) Via.refl e0 Fv (g := (mkF m 1 #[.val (.ref x)] [.ref x])) rfl rfl (hb hby own_d7_1)
 refine own_by (T' := T1) (g' := (mkF m 4 #[.val (.ref x)] [.ref t])) st1 ?_
 obtain ⟨cl2, Ar2, q2, S2, M2, H2, G2⟩ := id Vt
 refine own_by (T' := T1) (g' := (mkF m 5 #[.val (.ref x)] [.int 1])) (fun _ kt_ => X1.arraylength hx (by rw [e1]; exact Ar2.1) (State.isArrayOf_alike hZ.alike Ar2.2.1) (g := (mkF m 4 #[.val (.ref x)] [.ref t])) rfl rfl (hb hby own_d7_4) _ (by rw [len_of S2 M2]; exact kt_)) ?_
 refine own_by (T' := T1) (g' := (mkF m 6 #[.val (.ref x)] [.ref x, .int 1])) (fun _ kt_ => XS.aloadN X1.here hx rfl (hb hby own_d7_5) rfl rfl kt_) ?_
 obtain ⟨cq3, kq3, q3a, q3b, q3c⟩ := isOf hZ e1 E_x
 obtain ⟨_, _, ⟨T3, L3, k3, n3⟩, -, X3, ⟨Lc3, hQ3, l3, y3, z3⟩, st3⟩ := X1.virtualBack hx (y := (⟨"java/lang/String", "coder", "()B"⟩ : MethodName)) (z := (⟨"java/lang/String", "coder", "()B"⟩ : MethodName)) hown (mvT hZ (ww hw 38 rfl)) (mvT hZ (ww hw 39 rfl)) (notFace_of_selects (args := #[]) (mvT hZ (ww hw 41 rfl))) (mvT hZ (ww hw 41 rfl)) (mvT hZ (ww hw 40 rfl)) (by decide) (backOf (W := 1) (rmCoder l Z a0 hw [] zC vF hvF GS x h0 n0 (by omega) O0 Fc) hZ (ww hw 42 rfl) (ww hw 9 rfl) (by decide) (by decide)) q3a q3c (g := (mkF m 6 #[.val (.ref x)] [.ref x, .int 1])) rfl (by rw [hml]; rfl) (Steps.refl _) (argsL := []) (rest := [.int 1]) (lenOf own_pd_6 rfl) rfl (by show 2 * 0 + _ ≤ _; exact Nat.le_of_eq rfl) (hb hby own_d7_6) (fun _ _ => ⟨rfl, e1, (by decide : 0 + 0 ≤ _), (by decide : 0 + 0 ≤ _)⟩)
 dsimp only [Pt.U, Pt.locs, Pt.cells, Pt.slots] at X3 l3 y3 z3 st3 hQ3
 subst l3 y3 z3
 obtain ⟨rfl, N3q, e3⟩ := hQ3
 have N4 := Fr.app N0 N3q
 refine own_by (T' := T3) (g' := (mkF m 9 #[.val (.ref x)] [.int 0, .int 1])) (fun _ kt_ => st3.trans kt_) ?_
 refine own_by (T' := T3) (g' := (mkF m 10 #[.val (.ref x)] [(.int ((1 : Int32) >>> ((0 : Int32) &&& 31)))])) (fun _ kt_ => XS.ishr X3.here hx rfl (hb hby own_d7_9) rfl kt_) ?_
 have hr5 : ((1 : Int32) >>> ((0 : Int32) &&& 31)) = (1 : Int32) := by decide
 obtain ⟨fs6, hr6, hrun6, hended6, hW6, hsame6⟩ := X3.leave (v := some (.int ((1 : Int32) >>> ((0 : Int32) &&& 31)))) (fun h => by rw [Bd.returns] at h; cases h)
 refine ⟨_, _, retOut X3 hx (t := .int) Bd.returns rfl (Or.inl ⟨rfl, Or.inl rfl, _, rfl⟩) (hb hby own_d7_10) hr6, hrun6, hended6, _, _, rfl, ?_, ⟨_, rfl⟩, hW6, hsame6.mono (by decide) (by decide)⟩
 show Q_rmLen_1 Z zC vF hvF x t kB c0 h0 n0 _ T3.heap _
 exact ⟨(congrArg (fun z => some (Value.int z)) hr5), N4, e3⟩
theorem own_pd_7 : parseMethodDescriptor "(II)V" = some ⟨[.int, .int], none⟩ := by decide +kernel
theorem own_d15_0 : decode jdk_43_method_2_code 0 = .ok (.iload_n 1, 1) := by decide +kernel
theorem own_d15_1 : decode jdk_43_method_2_code 1 = .ok (.aload_n 0, 1) := by decide +kernel
theorem own_d15_2 : decode jdk_43_method_2_code 2 = .ok (.arraylength, 1) := by decide +kernel
theorem own_d15_3 : decode jdk_43_method_2_code 3 = .ok (.invokestatic 9, 3) := by decide +kernel
theorem own_d15_6 : decode jdk_43_method_2_code 6 = .ok (.aload_n 0, 1) := by decide +kernel
theorem own_d15_7 : decode jdk_43_method_2_code 7 = .ok (.iload_n 1, 1) := by decide +kernel
theorem own_d15_8 : decode jdk_43_method_2_code 8 = .ok (.baload, 1) := by decide +kernel
theorem own_d15_9 : decode jdk_43_method_2_code 9 = .ok (.sipush 255, 3) := by decide +kernel
theorem own_d15_12 : decode jdk_43_method_2_code 12 = .ok (.iand, 1) := by decide +kernel
theorem own_d15_13 : decode jdk_43_method_2_code 13 = .ok (.i2c, 1) := by decide +kernel
theorem own_d15_14 : decode jdk_43_method_2_code 14 = .ok (.ireturn, 1) := by decide +kernel
theorem own_pn_java_lang_StringLatin1 : plainName "java/lang/StringLatin1" = true := by first | (simp [plainName, overriddenIn]; done) | decide +kernel
theorem own_ef_rmLch_1_0 (m : MethodId) (x0 : Addr) (x1 : Int32) : entryFrame m #[.ref x0, .int x1] 2 = mkF m 0 #[.val (.ref x0), .val (.int x1)] [] := by first | (simp [entryFrame, mkF, argsToLocals, Value.category]; done) | rfl
def Q_rmLch_1_0 (Z : State) (zC : Int32) (vF : Value) (hvF : vF.isRef = true) (t : Addr) (kB : ClassId) (b0 : Int32) (h0 : Heap) (n0 : Nat) (vv_ : Option Value) (hh_ : Heap) (LL_ : List Loc) : Prop := vv_ = some (.int ((b0 &&& (255 : Int32)).toUInt32.toUInt16.toUInt32.toInt32)) ∧ Fr n0 LL_ ∧ hh_ = h0
set_option maxRecDepth 65536 in
set_option maxHeartbeats 40000000 in
theorem rmLch_1_0 (l : Launch) (Z : State) (a0 : Array Value) (hw : ∀ d ∈ tables_1, d.before a0 Z = true) (ws : List Jvm.Cond) (zC : Int32) (vF : Value) (hvF : vF.isRef = true) (GS : Glob Z zC vF hvF) (t : Addr) (kB : ClassId) (b0 : Int32) (h0 : Heap) (n0 : Nat) (Z0 : n0 ≤ h0.size) (O0 : Old Z n0 h0) (Vt : Arv Z h0 t kB .byte (1 : Int32) [.int b0] (.int 0)) :
  MetFree l (⟨"java/lang/StringLatin1", "charAt", "([BI)C"⟩ : MethodName) (head1 (Jvm.Cond.code (⟨"java/lang/StringLatin1", "charAt", "([BI)C"⟩ : MethodName) jdk_43_method_2_code 2 (some .char) :: ws) (⟨2, 0, 0, 27⟩ : Room)) (fun aa_ UU_ => aa_ = #[.ref t, .int 0] ∧ Z.Warmed39 UU_.vm ∧ UU_.heap = h0) (fun _ _ _ _ _ => True) (fun _ UU_ oo_ UV_ => ∃ vv_ LL_, oo_ = .returned vv_ ∧ Q_rmLch_1_0 Z zC vF hvF t kB b0 h0 n0 vv_ UV_.heap LL_ ∧ FrameEnd UU_ oo_ UV_ LL_ (⟨2, 0, 0, 27⟩ : Room).cells (⟨2, 0, 0, 27⟩ : Room).slots) := by
 refine MetFree.of_bodySF (plainFor_of_name own_pn_java_lang_StringLatin1) hisR ?_
 intro p e s m args below meth c s₁ Bd hml0 hP hK
 obtain ⟨rfl, hZ, hh⟩ := hP
 have hx := Bd.exec
 have hby := Bd.bytes
 have hml : c.maxLocals = 2 := hml0
 have hown : s.vm.findClass "java/lang/StringLatin1" = some m.cls := findClass_of_methodNamed Bd.named
 have hnm := (name_of_methodNamed Bd.named Bd.method).1
 have X0 : Stand p l e (⟨2, 0, 0, 27⟩ : Room) s m #[.ref t, .int 0] below meth c s₁ [] 0 0 := Stand.of_body Bd
 have e0 : s₁.heap = h0 := by rw [← hh, Bd.state]; rfl
 have N0 := Fr.nil n0
 have hn0 : Z.heap.size = n0 := O0.1
 have KT0 : Keep h0 h0 [] := Keep.refl _ _
 refine own_enter (Φ := fun oo_ UV_ => ∃ vv_ LL_, oo_ = .returned vv_ ∧ Q_rmLch_1_0 Z zC vF hvF t kB b0 h0 n0 vv_ UV_.heap LL_ ∧ FrameEnd s oo_ UV_ LL_ (⟨2, 0, 0, 27⟩ : Room).cells (⟨2, 0, 0, 27⟩ : Room).slots) (own_ef_rmLch_1_0 m t (0 : Int32)) ?_
 refine own_by (T' := s₁) (g' := (mkF m 1 #[.val (.ref t), .val (.int 0)] [.int 0])) (fun _ kt_ => XS.iloadN X0.here hx rfl (hb hby own_d15_0) rfl kt_) ?_
 refine own_by (T' := s₁) (g' := (mkF m 2 #[.val (.ref t), .val (.int 0)] [.ref t, .int 0])) (fun _ kt_ => XS.aloadN X0.here hx rfl (hb hby own_d15_1) rfl rfl kt_) ?_
 obtain ⟨cl1, Ar1, q1, S1, M1, H1, G1⟩ := id Vt
 refine own_by (T' := s₁) (g' := (mkF m 3 #[.val (.ref t), .val (.int 0)] [.int 1, .int 0])) (fun _ kt_ => X0.arraylength hx (by rw [e0]; exact Ar1.1) (State.isArrayOf_alike hZ.alike Ar1.2.1) (g := (mkF m 2 #[.val (.ref t), .val (.int 0)] [.ref t, .int 0])) rfl rfl (hb hby own_d15_2) _ (by rw [len_of S1 M1]; exact kt_)) ?_
 obtain ⟨_, _, ⟨T2, L2, k2, n2⟩, -, X2, ⟨Lc2, hQ2, l2, y2, z2⟩, st2⟩ := Jvm.LawKit.callS X0 hx (y := (⟨"java/lang/String", "checkIndex", "(II)V"⟩ : MethodName)) hown (mvT hZ (ww hw 71 rfl)) (mvT hZ (ww hw 72 rfl)) (mvT hZ (ww hw 9 rfl)) (mvT hZ (ww hw 73 rfl)) (by decide) (backOf (W := 0) (rmCi l Z a0 hw [] zC vF hvF GS (0 : Int32) (1 : Int32) h0 n0 (by omega) O0 (by decide) (by decide)) hZ (ww hw 73 rfl) (ww hw 9 rfl) (by decide) (by decide)) (g := (mkF m 3 #[.val (.ref t), .val (.int 0)] [.int 1, .int 0])) rfl (by rw [hml]; rfl) (argsL := [.int 0, .int 1]) (rest := []) (lenOf own_pd_7 rfl) rfl (by show 2 * 0 + _ ≤ _; exact Nat.le_of_eq rfl) (hb hby own_d15_3) (fun _ _ => ⟨rfl, e0, (by decide : 0 + 0 ≤ _), (by decide : 0 + 0 ≤ _)⟩)
 dsimp only [Pt.U, Pt.locs, Pt.cells, Pt.slots] at X2 l2 y2 z2 st2 hQ2
 subst l2 y2 z2
 obtain ⟨rfl, N2q, e2⟩ := hQ2
 have N3 := Fr.app N0 N2q
 refine own_by (T' := T2) (g' := (mkF m 6 #[.val (.ref t), .val (.int 0)] [])) st2 ?_
 refine own_by (T' := T2) (g' := (mkF m 7 #[.val (.ref t), .val (.int 0)] [.ref t])) (fun _ kt_ => XS.aloadN X2.here hx rfl (hb hby own_d15_6) rfl rfl kt_) ?_
 refine own_by (T' := T2) (g' := (mkF m 8 #[.val (.ref t), .val (.int 0)] [.int 0, .ref t])) (fun _ kt_ => XS.iloadN X2.here hx rfl (hb hby own_d15_7) rfl kt_) ?_
 obtain ⟨cl4, Ar4, q4, S4, M4, H4, G4⟩ := id Vt
 have hin4 : ¬ ((0 : Int32) < 0 ∨ cl4.slots.size ≤ ((0 : Int32)).toNatClampNeg) := inb_of S4 ⟨by decide, by decide⟩
 have hat4 : cl4.slots[((0 : Int32)).toNatClampNeg]? = some (.int b0) := H4.at hin4 rfl
 refine own_by (T' := T2) (g' := (mkF m 9 #[.val (.ref t), .val (.int 0)] [.int b0])) (fun _ kt_ => X2.baloadBytes hx (j := (0 : Int32)) (v := (.int b0)) (by rw [e2]; exact Ar4.1) (State.isArrayOf_alike hZ.alike Ar4.2.1) Ar4.2.2 hin4 hat4 (g := (mkF m 8 #[.val (.ref t), .val (.int 0)] [.int 0, .ref t])) rfl rfl (hb hby own_d15_8) _ kt_) ?_
 refine own_by (T' := T2) (g' := (mkF m 12 #[.val (.ref t), .val (.int 0)] [.int 255, .int b0])) (fun _ kt_ => XS.sipush X2.here hx rfl (hb hby own_d15_9) kt_) ?_
 refine own_by (T' := T2) (g' := (mkF m 13 #[.val (.ref t), .val (.int 0)] [(.int (b0 &&& (255 : Int32)))])) (fun _ kt_ => XS.iand X2.here hx rfl (hb hby own_d15_12) rfl kt_) ?_
 refine own_by (T' := T2) (g' := (mkF m 14 #[.val (.ref t), .val (.int 0)] [(.int (b0 &&& (255 : Int32)).toUInt32.toUInt16.toUInt32.toInt32)])) (fun _ kt_ => XS.i2c X2.here hx rfl (hb hby own_d15_13) rfl kt_) ?_
 have hn5 : nar .char ((b0 &&& (255 : Int32)).toUInt32.toUInt16.toUInt32.toInt32) = (b0 &&& (255 : Int32)).toUInt32.toUInt16.toUInt32.toInt32 := (own_narC _)
 have hr6 : (b0 &&& (255 : Int32)).toUInt32.toUInt16.toUInt32.toInt32 = ((b0 &&& (255 : Int32)).toUInt32.toUInt16.toUInt32.toInt32) := by simp []
 obtain ⟨fs7, hr7, hrun7, hended7, hW7, hsame7⟩ := X2.leave (v := some (.int (nar .char ((b0 &&& (255 : Int32)).toUInt32.toUInt16.toUInt32.toInt32)))) (fun h => by rw [Bd.returns] at h; cases h)
 refine ⟨_, _, retN X2 hx (t := .char) Bd.returns (by simp) (hb hby own_d15_14) hr7, hrun7, hended7, _, _, rfl, ?_, ⟨_, rfl⟩, hW7, hsame7.mono (by decide) (by decide)⟩
 show Q_rmLch_1_0 Z zC vF hvF t kB b0 h0 n0 _ T2.heap _
 exact ⟨(congrArg (fun z => some (Value.int z)) (hn5.trans hr6)), N3, e2⟩
theorem own_pd_8 : parseMethodDescriptor "()Z" = some ⟨[], some .boolean⟩ := by decide +kernel
theorem own_pd_9 : parseMethodDescriptor "([BI)C" = some ⟨[(.array .byte), .int], some .char⟩ := by decide +kernel
theorem own_d13_0 : decode jdk_42_method_56_code 0 = .ok (.aload_n 0, 1) := by decide +kernel
theorem own_d13_1 : decode jdk_42_method_56_code 1 = .ok (.invokevirtual 492, 3) := by decide +kernel
theorem own_d13_4 : decode jdk_42_method_56_code 4 = .ok (.ifCond .eq 12, 3) := by decide +kernel
theorem own_d13_7 : decode jdk_42_method_56_code 7 = .ok (.aload_n 0, 1) := by decide +kernel
theorem own_d13_8 : decode jdk_42_method_56_code 8 = .ok (.getfield 9, 3) := by decide +kernel
theorem own_d13_11 : decode jdk_42_method_56_code 11 = .ok (.iload_n 1, 1) := by decide +kernel
theorem own_d13_12 : decode jdk_42_method_56_code 12 = .ok (.invokestatic 495, 3) := by decide +kernel
theorem own_d13_15 : decode jdk_42_method_56_code 15 = .ok (.ireturn, 1) := by decide +kernel
theorem own_ef_rmChr_1_0 (m : MethodId) (x0 : Addr) (x1 : Int32) : entryFrame m #[.ref x0, .int x1] 2 = mkF m 0 #[.val (.ref x0), .val (.int x1)] [] := by first | (simp [entryFrame, mkF, argsToLocals, Value.category]; done) | rfl
def Q_rmChr_1_0 (Z : State) (zC : Int32) (vF : Value) (hvF : vF.isRef = true) (x : Addr) (t : Addr) (kB : ClassId) (c0 : Int32) (h0 : Heap) (n0 : Nat) (vv_ : Option Value) (hh_ : Heap) (LL_ : List Loc) : Prop := vv_ = some (.int c0) ∧ Fr n0 LL_ ∧ hh_ = h0
set_option maxRecDepth 65536 in
set_option maxHeartbeats 40000000 in
theorem rmChr_1_0 (l : Launch) (Z : State) (a0 : Array Value) (hw : ∀ d ∈ tables_1, d.before a0 Z = true) (ws : List Jvm.Cond) (zC : Int32) (vF : Value) (hvF : vF.isRef = true) (GS : Glob Z zC vF hvF) (x : Addr) (t : Addr) (kB : ClassId) (c0 : Int32) (h0 : Heap) (n0 : Nat) (Z0 : n0 ≤ h0.size) (O0 : Old Z n0 h0) (E_x : Exa Z h0 x "java/lang/String") (Fv : Fld Z h0 x "java/lang/String" "value" "[B" (.ref t)) (Fc : Fld Z h0 x "java/lang/String" "coder" "B" (.int 0)) (Vt : Arv Z h0 t kB .byte (1 : Int32) [(.int c0.toInt8.toInt32)] (.int 0)) (okc : okF c0) :
  MetFree l (⟨"java/lang/String", "charAt", "(I)C"⟩ : MethodName) (head1 (Jvm.Cond.code (⟨"java/lang/String", "charAt", "(I)C"⟩ : MethodName) jdk_42_method_56_code 2 (some .char) :: ws) (⟨3, 0, 0, 40⟩ : Room)) (fun aa_ UU_ => aa_ = #[.ref x, .int 0] ∧ Z.Warmed39 UU_.vm ∧ UU_.heap = h0) (fun _ _ _ _ _ => True) (fun _ UU_ oo_ UV_ => ∃ vv_ LL_, oo_ = .returned vv_ ∧ Q_rmChr_1_0 Z zC vF hvF x t kB c0 h0 n0 vv_ UV_.heap LL_ ∧ FrameEnd UU_ oo_ UV_ LL_ (⟨3, 0, 0, 40⟩ : Room).cells (⟨3, 0, 0, 40⟩ : Room).slots) := by
 refine MetFree.of_bodySF (plainFor_of_name own_pn_java_lang_String) hisR ?_
 intro p e s m args below meth c s₁ Bd hml0 hP hK
 obtain ⟨rfl, hZ, hh⟩ := hP
 have hx := Bd.exec
 have hby := Bd.bytes
 have hml : c.maxLocals = 2 := hml0
 have hown : s.vm.findClass "java/lang/String" = some m.cls := findClass_of_methodNamed Bd.named
 have hnm := (name_of_methodNamed Bd.named Bd.method).1
 have X0 : Stand p l e (⟨3, 0, 0, 40⟩ : Room) s m #[.ref x, .int 0] below meth c s₁ [] 0 0 := Stand.of_body Bd
 have e0 : s₁.heap = h0 := by rw [← hh, Bd.state]; rfl
 have N0 := Fr.nil n0
 have hn0 : Z.heap.size = n0 := O0.1
 have KT0 : Keep h0 h0 [] := Keep.refl _ _
 refine own_enter (Φ := fun oo_ UV_ => ∃ vv_ LL_, oo_ = .returned vv_ ∧ Q_rmChr_1_0 Z zC vF hvF x t kB c0 h0 n0 vv_ UV_.heap LL_ ∧ FrameEnd s oo_ UV_ LL_ (⟨3, 0, 0, 40⟩ : Room).cells (⟨3, 0, 0, 40⟩ : Room).slots) (own_ef_rmChr_1_0 m x (0 : Int32)) ?_
 refine own_by (T' := s₁) (g' := (mkF m 1 #[.val (.ref x), .val (.int 0)] [.ref x])) (fun _ kt_ => XS.aloadN X0.here hx rfl (hb hby own_d13_0) rfl rfl kt_) ?_
 obtain ⟨cq1, kq1, q1a, q1b, q1c⟩ := isOf hZ e0 E_x
 obtain ⟨_, _, ⟨T1, L1, k1, n1⟩, -, X1, ⟨Lc1, hQ1, l1, y1, z1⟩, st1⟩ := X0.virtualBack hx (y := (⟨"java/lang/String", "isLatin1", "()Z"⟩ : MethodName)) (z := (⟨"java/lang/String", "isLatin1", "()Z"⟩ : MethodName)) hown (mvT hZ (ww hw 62 rfl)) (mvT hZ (ww hw 63 rfl)) (notFace_of_selects (args := #[]) (mvT hZ (ww hw 65 rfl))) (mvT hZ (ww hw 65 rfl)) (mvT hZ (ww hw 64 rfl)) (by decide) (backOf (W := 0) (rmLat l Z a0 hw [] zC vF hvF GS x h0 n0 (by omega) O0 Fc) hZ (ww hw 66 rfl) (ww hw 9 rfl) (by decide) (by decide)) q1a q1c (g := (mkF m 1 #[.val (.ref x), .val (.int 0)] [.ref x])) rfl (by rw [hml]; rfl) (Steps.refl _) (argsL := []) (rest := []) (lenOf own_pd_8 rfl) rfl (by show 2 * 0 + _ ≤ _; exact Nat.le_of_eq rfl) (hb hby own_d13_1) (fun _ _ => ⟨rfl, e0, (by decide : 0 + 0 ≤ _), (by decide : 0 + 0 ≤ _)⟩)
 dsimp only [Pt.U, Pt.locs, Pt.cells, Pt.slots] at X1 l1 y1 z1 st1 hQ1
 subst l1 y1 z1
 obtain ⟨rfl, N1q, e1⟩ := hQ1
 have N2 := Fr.app N0 N1q
 refine own_by (T' := T1) (g' := (mkF m 4 #[.val (.ref x), .val (.int 0)] [.int 1])) (fun _ kt_ => st1.trans kt_) ?_
 refine own_by (T' := T1) (g' := (mkF m 7 #[.val (.ref x), .val (.int 0)] [])) (fun _ kt_ => XS.ifNo X1.here hx rfl (hb hby own_d13_4) rfl (XT.i0_eq_f (by decide)) kt_) ?_
 refine own_by (T' := T1) (g' := (mkF m 8 #[.val (.ref x), .val (.int 0)] [.ref x])) (fun _ kt_ => XS.aloadN X1.here hx rfl (hb hby own_d13_7) rfl rfl kt_) ?_
 obtain ⟨T3, X3, e3, st3⟩ := getF X1 hx hZ hown (host := "") (Or.inl (ww hw 27 rfl)) Via.refl e1 Fv (g := (mkF m 8 #[.val (.ref x), .val (.int 0)] [.ref x])) rfl rfl (hb hby own_d13_8)
 refine own_by (T' := T3) (g' := (mkF m 11 #[.val (.ref x), .val (.int 0)] [.ref t])) st3 ?_
 refine own_by (T' := T3) (g' := (mkF m 12 #[.val (.ref x), .val (.int 0)] [.int 0, .ref t])) (fun _ kt_ => XS.iloadN X3.here hx rfl (hb hby own_d13_11) rfl kt_) ?_
 obtain ⟨_, _, ⟨T4, L4, k4, n4⟩, -, X4, ⟨Lc4, hQ4, l4, y4, z4⟩, st4⟩ := Jvm.LawKit.callS X3 hx (y := (⟨"java/lang/StringLatin1", "charAt", "([BI)C"⟩ : MethodName)) hown (mvT hZ (ww hw 67 rfl)) (mvT hZ (ww hw 68 rfl)) (mvT hZ (ww hw 69 rfl)) (mvT hZ (ww hw 70 rfl)) (by decide) (backOf (W := 0) (rmLch_1_0 l Z a0 hw [] zC vF hvF GS t kB c0.toInt8.toInt32 h0 n0 (by omega) O0 Vt) hZ (ww hw 70 rfl) (ww hw 69 rfl) (by decide) (by decide)) (g := (mkF m 12 #[.val (.ref x), .val (.int 0)] [.int 0, .ref t])) rfl (by rw [hml]; rfl) (argsL := [.ref t, .int 0]) (rest := []) (lenOf own_pd_9 rfl) rfl (by show 2 * 0 + _ ≤ _; exact Nat.le_of_eq rfl) (hb hby own_d13_12) (fun _ _ => ⟨rfl, e3, (by decide : 0 + 0 ≤ _), (by decide : 0 + 0 ≤ _)⟩)
 dsimp only [Pt.U, Pt.locs, Pt.cells, Pt.slots] at X4 l4 y4 z4 st4 hQ4
 subst l4 y4 z4
 obtain ⟨rfl, N4q, e4⟩ := hQ4
 have N5 := Fr.app N2 N4q
 refine own_by (T' := T4) (g' := (mkF m 15 #[.val (.ref x), .val (.int 0)] [(.int ((c0.toInt8.toInt32 &&& (255 : Int32)).toUInt32.toUInt16.toUInt32.toInt32))])) st4 ?_
 have hn6 : nar .char ((c0.toInt8.toInt32 &&& (255 : Int32)).toUInt32.toUInt16.toUInt32.toInt32) = ((c0.toInt8.toInt32 &&& (255 : Int32)).toUInt32.toUInt16.toUInt32.toInt32) := (own_narC _)
 have hr7 : ((c0.toInt8.toInt32 &&& (255 : Int32)).toUInt32.toUInt16.toUInt32.toInt32) = c0 := own_chr okc
 obtain ⟨fs8, hr8, hrun8, hended8, hW8, hsame8⟩ := X4.leave (v := some (.int (nar .char ((c0.toInt8.toInt32 &&& (255 : Int32)).toUInt32.toUInt16.toUInt32.toInt32)))) (fun h => by rw [Bd.returns] at h; cases h)
 refine ⟨_, _, retN X4 hx (t := .char) Bd.returns (by simp) (hb hby own_d13_15) hr8, hrun8, hended8, _, _, rfl, ?_, ⟨_, rfl⟩, hW8, hsame8.mono (by decide) (by decide)⟩
 show Q_rmChr_1_0 Z zC vF hvF x t kB c0 h0 n0 _ T4.heap _
 exact ⟨(congrArg (fun z => some (Value.int z)) (hn6.trans hr7)), N5, e4⟩
theorem own_ef_rmLen_2 (m : MethodId) (x0 : Addr) : entryFrame m #[.ref x0] 1 = mkF m 0 #[.val (.ref x0)] [] := by first | (simp [entryFrame, mkF, argsToLocals, Value.category]; done) | rfl
def Q_rmLen_2 (Z : State) (zC : Int32) (vF : Value) (hvF : vF.isRef = true) (x : Addr) (t : Addr) (kB : ClassId) (c0 : Int32) (c1 : Int32) (h0 : Heap) (n0 : Nat) (vv_ : Option Value) (hh_ : Heap) (LL_ : List Loc) : Prop := vv_ = some (.int 2) ∧ Fr n0 LL_ ∧ hh_ = h0
set_option maxRecDepth 65536 in
set_option maxHeartbeats 40000000 in
theorem rmLen_2 (l : Launch) (Z : State) (a0 : Array Value) (hw : ∀ d ∈ tables_1, d.before a0 Z = true) (ws : List Jvm.Cond) (zC : Int32) (vF : Value) (hvF : vF.isRef = true) (GS : Glob Z zC vF hvF) (x : Addr) (t : Addr) (kB : ClassId) (c0 : Int32) (c1 : Int32) (h0 : Heap) (n0 : Nat) (Z0 : n0 ≤ h0.size) (O0 : Old Z n0 h0) (E_x : Exa Z h0 x "java/lang/String") (Fv : Fld Z h0 x "java/lang/String" "value" "[B" (.ref t)) (Fc : Fld Z h0 x "java/lang/String" "coder" "B" (.int 0)) (Vt : Arv Z h0 t kB .byte (2 : Int32) [(.int c0.toInt8.toInt32), (.int c1.toInt8.toInt32)] (.int 0)) :
  MetFree l (⟨"java/lang/String", "length", "()I"⟩ : MethodName) (head1 (Jvm.Cond.code (⟨"java/lang/String", "length", "()I"⟩ : MethodName) jdk_42_method_54_code 1 (some .int) :: ws) (⟨1, 0, 0, 13⟩ : Room)) (fun aa_ UU_ => aa_ = #[.ref x] ∧ Z.Warmed39 UU_.vm ∧ UU_.heap = h0) (fun _ _ _ _ _ => True) (fun _ UU_ oo_ UV_ => ∃ vv_ LL_, oo_ = .returned vv_ ∧ Q_rmLen_2 Z zC vF hvF x t kB c0 c1 h0 n0 vv_ UV_.heap LL_ ∧ FrameEnd UU_ oo_ UV_ LL_ (⟨1, 0, 0, 13⟩ : Room).cells (⟨1, 0, 0, 13⟩ : Room).slots) := by
 refine MetFree.of_bodySF (plainFor_of_name own_pn_java_lang_String) hisR ?_
 intro p e s m args below meth c s₁ Bd hml0 hP hK
 obtain ⟨rfl, hZ, hh⟩ := hP
 have hx := Bd.exec
 have hby := Bd.bytes
 have hml : c.maxLocals = 1 := hml0
 have hown : s.vm.findClass "java/lang/String" = some m.cls := findClass_of_methodNamed Bd.named
 have hnm := (name_of_methodNamed Bd.named Bd.method).1
 have X0 : Stand p l e (⟨1, 0, 0, 13⟩ : Room) s m #[.ref x] below meth c s₁ [] 0 0 := Stand.of_body Bd
 have e0 : s₁.heap = h0 := by rw [← hh, Bd.state]; rfl
 have N0 := Fr.nil n0
 have hn0 : Z.heap.size = n0 := O0.1
 have KT0 : Keep h0 h0 [] := Keep.refl _ _
 refine own_enter (Φ := fun oo_ UV_ => ∃ vv_ LL_, oo_ = .returned vv_ ∧ Q_rmLen_2 Z zC vF hvF x t kB c0 c1 h0 n0 vv_ UV_.heap LL_ ∧ FrameEnd s oo_ UV_ LL_ (⟨1, 0, 0, 13⟩ : Room).cells (⟨1, 0, 0, 13⟩ : Room).slots) (own_ef_rmLen_2 m x) ?_
 refine own_by (T' := s₁) (g' := (mkF m 1 #[.val (.ref x)] [.ref x])) (fun _ kt_ => XS.aloadN X0.here hx rfl (hb hby own_d7_0) rfl rfl kt_) ?_
 obtain ⟨T1, X1, e1, st1⟩ := getF X0 hx hZ hown (host := "") (Or.inl (ww hw 27 rfl)) Via.refl e0 Fv (g := (mkF m 1 #[.val (.ref x)] [.ref x])) rfl rfl (hb hby own_d7_1)
 refine own_by (T' := T1) (g' := (mkF m 4 #[.val (.ref x)] [.ref t])) st1 ?_
 obtain ⟨cl2, Ar2, q2, S2, M2, H2, G2⟩ := id Vt
 refine own_by (T' := T1) (g' := (mkF m 5 #[.val (.ref x)] [.int 2])) (fun _ kt_ => X1.arraylength hx (by rw [e1]; exact Ar2.1) (State.isArrayOf_alike hZ.alike Ar2.2.1) (g := (mkF m 4 #[.val (.ref x)] [.ref t])) rfl rfl (hb hby own_d7_4) _ (by rw [len_of S2 M2]; exact kt_)) ?_
 refine own_by (T' := T1) (g' := (mkF m 6 #[.val (.ref x)] [.ref x, .int 2])) (fun _ kt_ => XS.aloadN X1.here hx rfl (hb hby own_d7_5) rfl rfl kt_) ?_
 obtain ⟨cq3, kq3, q3a, q3b, q3c⟩ := isOf hZ e1 E_x
 obtain ⟨_, _, ⟨T3, L3, k3, n3⟩, -, X3, ⟨Lc3, hQ3, l3, y3, z3⟩, st3⟩ := X1.virtualBack hx (y := (⟨"java/lang/String", "coder", "()B"⟩ : MethodName)) (z := (⟨"java/lang/String", "coder", "()B"⟩ : MethodName)) hown (mvT hZ (ww hw 38 rfl)) (mvT hZ (ww hw 39 rfl)) (notFace_of_selects (args := #[]) (mvT hZ (ww hw 41 rfl))) (mvT hZ (ww hw 41 rfl)) (mvT hZ (ww hw 40 rfl)) (by decide) (backOf (W := 1) (rmCoder l Z a0 hw [] zC vF hvF GS x h0 n0 (by omega) O0 Fc) hZ (ww hw 42 rfl) (ww hw 9 rfl) (by decide) (by decide)) q3a q3c (g := (mkF m 6 #[.val (.ref x)] [.ref x, .int 2])) rfl (by rw [hml]; rfl) (Steps.refl _) (argsL := []) (rest := [.int 2]) (lenOf own_pd_6 rfl) rfl (by show 2 * 0 + _ ≤ _; exact Nat.le_of_eq rfl) (hb hby own_d7_6) (fun _ _ => ⟨rfl, e1, (by decide : 0 + 0 ≤ _), (by decide : 0 + 0 ≤ _)⟩)
 dsimp only [Pt.U, Pt.locs, Pt.cells, Pt.slots] at X3 l3 y3 z3 st3 hQ3
 subst l3 y3 z3
 obtain ⟨rfl, N3q, e3⟩ := hQ3
 have N4 := Fr.app N0 N3q
 refine own_by (T' := T3) (g' := (mkF m 9 #[.val (.ref x)] [.int 0, .int 2])) (fun _ kt_ => st3.trans kt_) ?_
 refine own_by (T' := T3) (g' := (mkF m 10 #[.val (.ref x)] [(.int ((2 : Int32) >>> ((0 : Int32) &&& 31)))])) (fun _ kt_ => XS.ishr X3.here hx rfl (hb hby own_d7_9) rfl kt_) ?_
 have hr5 : ((2 : Int32) >>> ((0 : Int32) &&& 31)) = (2 : Int32) := by decide
 obtain ⟨fs6, hr6, hrun6, hended6, hW6, hsame6⟩ := X3.leave (v := some (.int ((2 : Int32) >>> ((0 : Int32) &&& 31)))) (fun h => by rw [Bd.returns] at h; cases h)
 refine ⟨_, _, retOut X3 hx (t := .int) Bd.returns rfl (Or.inl ⟨rfl, Or.inl rfl, _, rfl⟩) (hb hby own_d7_10) hr6, hrun6, hended6, _, _, rfl, ?_, ⟨_, rfl⟩, hW6, hsame6.mono (by decide) (by decide)⟩
 show Q_rmLen_2 Z zC vF hvF x t kB c0 c1 h0 n0 _ T3.heap _
 exact ⟨(congrArg (fun z => some (Value.int z)) hr5), N4, e3⟩
theorem own_ef_rmLch_2_0 (m : MethodId) (x0 : Addr) (x1 : Int32) : entryFrame m #[.ref x0, .int x1] 2 = mkF m 0 #[.val (.ref x0), .val (.int x1)] [] := by first | (simp [entryFrame, mkF, argsToLocals, Value.category]; done) | rfl
def Q_rmLch_2_0 (Z : State) (zC : Int32) (vF : Value) (hvF : vF.isRef = true) (t : Addr) (kB : ClassId) (b0 : Int32) (b1 : Int32) (h0 : Heap) (n0 : Nat) (vv_ : Option Value) (hh_ : Heap) (LL_ : List Loc) : Prop := vv_ = some (.int ((b0 &&& (255 : Int32)).toUInt32.toUInt16.toUInt32.toInt32)) ∧ Fr n0 LL_ ∧ hh_ = h0
set_option maxRecDepth 65536 in
set_option maxHeartbeats 40000000 in
theorem rmLch_2_0 (l : Launch) (Z : State) (a0 : Array Value) (hw : ∀ d ∈ tables_1, d.before a0 Z = true) (ws : List Jvm.Cond) (zC : Int32) (vF : Value) (hvF : vF.isRef = true) (GS : Glob Z zC vF hvF) (t : Addr) (kB : ClassId) (b0 : Int32) (b1 : Int32) (h0 : Heap) (n0 : Nat) (Z0 : n0 ≤ h0.size) (O0 : Old Z n0 h0) (Vt : Arv Z h0 t kB .byte (2 : Int32) [.int b0, .int b1] (.int 0)) :
  MetFree l (⟨"java/lang/StringLatin1", "charAt", "([BI)C"⟩ : MethodName) (head1 (Jvm.Cond.code (⟨"java/lang/StringLatin1", "charAt", "([BI)C"⟩ : MethodName) jdk_43_method_2_code 2 (some .char) :: ws) (⟨2, 0, 0, 27⟩ : Room)) (fun aa_ UU_ => aa_ = #[.ref t, .int 0] ∧ Z.Warmed39 UU_.vm ∧ UU_.heap = h0) (fun _ _ _ _ _ => True) (fun _ UU_ oo_ UV_ => ∃ vv_ LL_, oo_ = .returned vv_ ∧ Q_rmLch_2_0 Z zC vF hvF t kB b0 b1 h0 n0 vv_ UV_.heap LL_ ∧ FrameEnd UU_ oo_ UV_ LL_ (⟨2, 0, 0, 27⟩ : Room).cells (⟨2, 0, 0, 27⟩ : Room).slots) := by
 refine MetFree.of_bodySF (plainFor_of_name own_pn_java_lang_StringLatin1) hisR ?_
 intro p e s m args below meth c s₁ Bd hml0 hP hK
 obtain ⟨rfl, hZ, hh⟩ := hP
 have hx := Bd.exec
 have hby := Bd.bytes
 have hml : c.maxLocals = 2 := hml0
 have hown : s.vm.findClass "java/lang/StringLatin1" = some m.cls := findClass_of_methodNamed Bd.named
 have hnm := (name_of_methodNamed Bd.named Bd.method).1
 have X0 : Stand p l e (⟨2, 0, 0, 27⟩ : Room) s m #[.ref t, .int 0] below meth c s₁ [] 0 0 := Stand.of_body Bd
 have e0 : s₁.heap = h0 := by rw [← hh, Bd.state]; rfl
 have N0 := Fr.nil n0
 have hn0 : Z.heap.size = n0 := O0.1
 have KT0 : Keep h0 h0 [] := Keep.refl _ _
 refine own_enter (Φ := fun oo_ UV_ => ∃ vv_ LL_, oo_ = .returned vv_ ∧ Q_rmLch_2_0 Z zC vF hvF t kB b0 b1 h0 n0 vv_ UV_.heap LL_ ∧ FrameEnd s oo_ UV_ LL_ (⟨2, 0, 0, 27⟩ : Room).cells (⟨2, 0, 0, 27⟩ : Room).slots) (own_ef_rmLch_2_0 m t (0 : Int32)) ?_
 refine own_by (T' := s₁) (g' := (mkF m 1 #[.val (.ref t), .val (.int 0)] [.int 0])) (fun _ kt_ => XS.iloadN X0.here hx rfl (hb hby own_d15_0) rfl kt_) ?_
 refine own_by (T' := s₁) (g' := (mkF m 2 #[.val (.ref t), .val (.int 0)] [.ref t, .int 0])) (fun _ kt_ => XS.aloadN X0.here hx rfl (hb hby own_d15_1) rfl rfl kt_) ?_
 obtain ⟨cl1, Ar1, q1, S1, M1, H1, G1⟩ := id Vt
 refine own_by (T' := s₁) (g' := (mkF m 3 #[.val (.ref t), .val (.int 0)] [.int 2, .int 0])) (fun _ kt_ => X0.arraylength hx (by rw [e0]; exact Ar1.1) (State.isArrayOf_alike hZ.alike Ar1.2.1) (g := (mkF m 2 #[.val (.ref t), .val (.int 0)] [.ref t, .int 0])) rfl rfl (hb hby own_d15_2) _ (by rw [len_of S1 M1]; exact kt_)) ?_
 obtain ⟨_, _, ⟨T2, L2, k2, n2⟩, -, X2, ⟨Lc2, hQ2, l2, y2, z2⟩, st2⟩ := Jvm.LawKit.callS X0 hx (y := (⟨"java/lang/String", "checkIndex", "(II)V"⟩ : MethodName)) hown (mvT hZ (ww hw 71 rfl)) (mvT hZ (ww hw 72 rfl)) (mvT hZ (ww hw 9 rfl)) (mvT hZ (ww hw 73 rfl)) (by decide) (backOf (W := 0) (rmCi l Z a0 hw [] zC vF hvF GS (0 : Int32) (2 : Int32) h0 n0 (by omega) O0 (by decide) (by decide)) hZ (ww hw 73 rfl) (ww hw 9 rfl) (by decide) (by decide)) (g := (mkF m 3 #[.val (.ref t), .val (.int 0)] [.int 2, .int 0])) rfl (by rw [hml]; rfl) (argsL := [.int 0, .int 2]) (rest := []) (lenOf own_pd_7 rfl) rfl (by show 2 * 0 + _ ≤ _; exact Nat.le_of_eq rfl) (hb hby own_d15_3) (fun _ _ => ⟨rfl, e0, (by decide : 0 + 0 ≤ _), (by decide : 0 + 0 ≤ _)⟩)
 dsimp only [Pt.U, Pt.locs, Pt.cells, Pt.slots] at X2 l2 y2 z2 st2 hQ2
 subst l2 y2 z2
 obtain ⟨rfl, N2q, e2⟩ := hQ2
 have N3 := Fr.app N0 N2q
 refine own_by (T' := T2) (g' := (mkF m 6 #[.val (.ref t), .val (.int 0)] [])) st2 ?_
 refine own_by (T' := T2) (g' := (mkF m 7 #[.val (.ref t), .val (.int 0)] [.ref t])) (fun _ kt_ => XS.aloadN X2.here hx rfl (hb hby own_d15_6) rfl rfl kt_) ?_
 refine own_by (T' := T2) (g' := (mkF m 8 #[.val (.ref t), .val (.int 0)] [.int 0, .ref t])) (fun _ kt_ => XS.iloadN X2.here hx rfl (hb hby own_d15_7) rfl kt_) ?_
 obtain ⟨cl4, Ar4, q4, S4, M4, H4, G4⟩ := id Vt
 have hin4 : ¬ ((0 : Int32) < 0 ∨ cl4.slots.size ≤ ((0 : Int32)).toNatClampNeg) := inb_of S4 ⟨by decide, by decide⟩
 have hat4 : cl4.slots[((0 : Int32)).toNatClampNeg]? = some (.int b0) := H4.at hin4 rfl
 refine own_by (T' := T2) (g' := (mkF m 9 #[.val (.ref t), .val (.int 0)] [.int b0])) (fun _ kt_ => X2.baloadBytes hx (j := (0 : Int32)) (v := (.int b0)) (by rw [e2]; exact Ar4.1) (State.isArrayOf_alike hZ.alike Ar4.2.1) Ar4.2.2 hin4 hat4 (g := (mkF m 8 #[.val (.ref t), .val (.int 0)] [.int 0, .ref t])) rfl rfl (hb hby own_d15_8) _ kt_) ?_
 refine own_by (T' := T2) (g' := (mkF m 12 #[.val (.ref t), .val (.int 0)] [.int 255, .int b0])) (fun _ kt_ => XS.sipush X2.here hx rfl (hb hby own_d15_9) kt_) ?_
 refine own_by (T' := T2) (g' := (mkF m 13 #[.val (.ref t), .val (.int 0)] [(.int (b0 &&& (255 : Int32)))])) (fun _ kt_ => XS.iand X2.here hx rfl (hb hby own_d15_12) rfl kt_) ?_
 refine own_by (T' := T2) (g' := (mkF m 14 #[.val (.ref t), .val (.int 0)] [(.int (b0 &&& (255 : Int32)).toUInt32.toUInt16.toUInt32.toInt32)])) (fun _ kt_ => XS.i2c X2.here hx rfl (hb hby own_d15_13) rfl kt_) ?_
 have hn5 : nar .char ((b0 &&& (255 : Int32)).toUInt32.toUInt16.toUInt32.toInt32) = (b0 &&& (255 : Int32)).toUInt32.toUInt16.toUInt32.toInt32 := (own_narC _)
 have hr6 : (b0 &&& (255 : Int32)).toUInt32.toUInt16.toUInt32.toInt32 = ((b0 &&& (255 : Int32)).toUInt32.toUInt16.toUInt32.toInt32) := by simp []
 obtain ⟨fs7, hr7, hrun7, hended7, hW7, hsame7⟩ := X2.leave (v := some (.int (nar .char ((b0 &&& (255 : Int32)).toUInt32.toUInt16.toUInt32.toInt32)))) (fun h => by rw [Bd.returns] at h; cases h)
 refine ⟨_, _, retN X2 hx (t := .char) Bd.returns (by simp) (hb hby own_d15_14) hr7, hrun7, hended7, _, _, rfl, ?_, ⟨_, rfl⟩, hW7, hsame7.mono (by decide) (by decide)⟩
 show Q_rmLch_2_0 Z zC vF hvF t kB b0 b1 h0 n0 _ T2.heap _
 exact ⟨(congrArg (fun z => some (Value.int z)) (hn5.trans hr6)), N3, e2⟩
theorem own_ef_rmChr_2_0 (m : MethodId) (x0 : Addr) (x1 : Int32) : entryFrame m #[.ref x0, .int x1] 2 = mkF m 0 #[.val (.ref x0), .val (.int x1)] [] := by first | (simp [entryFrame, mkF, argsToLocals, Value.category]; done) | rfl
def Q_rmChr_2_0 (Z : State) (zC : Int32) (vF : Value) (hvF : vF.isRef = true) (x : Addr) (t : Addr) (kB : ClassId) (c0 : Int32) (c1 : Int32) (h0 : Heap) (n0 : Nat) (vv_ : Option Value) (hh_ : Heap) (LL_ : List Loc) : Prop := vv_ = some (.int c0) ∧ Fr n0 LL_ ∧ hh_ = h0
set_option maxRecDepth 65536 in
set_option maxHeartbeats 40000000 in
theorem rmChr_2_0 (l : Launch) (Z : State) (a0 : Array Value) (hw : ∀ d ∈ tables_1, d.before a0 Z = true) (ws : List Jvm.Cond) (zC : Int32) (vF : Value) (hvF : vF.isRef = true) (GS : Glob Z zC vF hvF) (x : Addr) (t : Addr) (kB : ClassId) (c0 : Int32) (c1 : Int32) (h0 : Heap) (n0 : Nat) (Z0 : n0 ≤ h0.size) (O0 : Old Z n0 h0) (E_x : Exa Z h0 x "java/lang/String") (Fv : Fld Z h0 x "java/lang/String" "value" "[B" (.ref t)) (Fc : Fld Z h0 x "java/lang/String" "coder" "B" (.int 0)) (Vt : Arv Z h0 t kB .byte (2 : Int32) [(.int c0.toInt8.toInt32), (.int c1.toInt8.toInt32)] (.int 0)) (okc : okF c0) :
  MetFree l (⟨"java/lang/String", "charAt", "(I)C"⟩ : MethodName) (head1 (Jvm.Cond.code (⟨"java/lang/String", "charAt", "(I)C"⟩ : MethodName) jdk_42_method_56_code 2 (some .char) :: ws) (⟨3, 0, 0, 40⟩ : Room)) (fun aa_ UU_ => aa_ = #[.ref x, .int 0] ∧ Z.Warmed39 UU_.vm ∧ UU_.heap = h0) (fun _ _ _ _ _ => True) (fun _ UU_ oo_ UV_ => ∃ vv_ LL_, oo_ = .returned vv_ ∧ Q_rmChr_2_0 Z zC vF hvF x t kB c0 c1 h0 n0 vv_ UV_.heap LL_ ∧ FrameEnd UU_ oo_ UV_ LL_ (⟨3, 0, 0, 40⟩ : Room).cells (⟨3, 0, 0, 40⟩ : Room).slots) := by
 refine MetFree.of_bodySF (plainFor_of_name own_pn_java_lang_String) hisR ?_
 intro p e s m args below meth c s₁ Bd hml0 hP hK
 obtain ⟨rfl, hZ, hh⟩ := hP
 have hx := Bd.exec
 have hby := Bd.bytes
 have hml : c.maxLocals = 2 := hml0
 have hown : s.vm.findClass "java/lang/String" = some m.cls := findClass_of_methodNamed Bd.named
 have hnm := (name_of_methodNamed Bd.named Bd.method).1
 have X0 : Stand p l e (⟨3, 0, 0, 40⟩ : Room) s m #[.ref x, .int 0] below meth c s₁ [] 0 0 := Stand.of_body Bd
 have e0 : s₁.heap = h0 := by rw [← hh, Bd.state]; rfl
 have N0 := Fr.nil n0
 have hn0 : Z.heap.size = n0 := O0.1
 have KT0 : Keep h0 h0 [] := Keep.refl _ _
 refine own_enter (Φ := fun oo_ UV_ => ∃ vv_ LL_, oo_ = .returned vv_ ∧ Q_rmChr_2_0 Z zC vF hvF x t kB c0 c1 h0 n0 vv_ UV_.heap LL_ ∧ FrameEnd s oo_ UV_ LL_ (⟨3, 0, 0, 40⟩ : Room).cells (⟨3, 0, 0, 40⟩ : Room).slots) (own_ef_rmChr_2_0 m x (0 : Int32)) ?_
 refine own_by (T' := s₁) (g' := (mkF m 1 #[.val (.ref x), .val (.int 0)] [.ref x])) (fun _ kt_ => XS.aloadN X0.here hx rfl (hb hby own_d13_0) rfl rfl kt_) ?_
 obtain ⟨cq1, kq1, q1a, q1b, q1c⟩ := isOf hZ e0 E_x
 obtain ⟨_, _, ⟨T1, L1, k1, n1⟩, -, X1, ⟨Lc1, hQ1, l1, y1, z1⟩, st1⟩ := X0.virtualBack hx (y := (⟨"java/lang/String", "isLatin1", "()Z"⟩ : MethodName)) (z := (⟨"java/lang/String", "isLatin1", "()Z"⟩ : MethodName)) hown (mvT hZ (ww hw 62 rfl)) (mvT hZ (ww hw 63 rfl)) (notFace_of_selects (args := #[]) (mvT hZ (ww hw 65 rfl))) (mvT hZ (ww hw 65 rfl)) (mvT hZ (ww hw 64 rfl)) (by decide) (backOf (W := 0) (rmLat l Z a0 hw [] zC vF hvF GS x h0 n0 (by omega) O0 Fc) hZ (ww hw 66 rfl) (ww hw 9 rfl) (by decide) (by decide)) q1a q1c (g := (mkF m 1 #[.val (.ref x), .val (.int 0)] [.ref x])) rfl (by rw [hml]; rfl) (Steps.refl _) (argsL := []) (rest := []) (lenOf own_pd_8 rfl) rfl (by show 2 * 0 + _ ≤ _; exact Nat.le_of_eq rfl) (hb hby own_d13_1) (fun _ _ => ⟨rfl, e0, (by decide : 0 + 0 ≤ _), (by decide : 0 + 0 ≤ _)⟩)
 dsimp only [Pt.U, Pt.locs, Pt.cells, Pt.slots] at X1 l1 y1 z1 st1 hQ1
 subst l1 y1 z1
 obtain ⟨rfl, N1q, e1⟩ := hQ1
 have N2 := Fr.app N0 N1q
 refine own_by (T' := T1) (g' := (mkF m 4 #[.val (.ref x), .val (.int 0)] [.int 1])) (fun _ kt_ => st1.trans kt_) ?_
 refine own_by (T' := T1) (g' := (mkF m 7 #[.val (.ref x), .val (.int 0)] [])) (fun _ kt_ => XS.ifNo X1.here hx rfl (hb hby own_d13_4) rfl (XT.i0_eq_f (by decide)) kt_) ?_
 refine own_by (T' := T1) (g' := (mkF m 8 #[.val (.ref x), .val (.int 0)] [.ref x])) (fun _ kt_ => XS.aloadN X1.here hx rfl (hb hby own_d13_7) rfl rfl kt_) ?_
 obtain ⟨T3, X3, e3, st3⟩ := getF X1 hx hZ hown (host := "") (Or.inl (ww hw 27 rfl)) Via.refl e1 Fv (g := (mkF m 8 #[.val (.ref x), .val (.int 0)] [.ref x])) rfl rfl (hb hby own_d13_8)
 refine own_by (T' := T3) (g' := (mkF m 11 #[.val (.ref x), .val (.int 0)] [.ref t])) st3 ?_
 refine own_by (T' := T3) (g' := (mkF m 12 #[.val (.ref x), .val (.int 0)] [.int 0, .ref t])) (fun _ kt_ => XS.iloadN X3.here hx rfl (hb hby own_d13_11) rfl kt_) ?_
 obtain ⟨_, _, ⟨T4, L4, k4, n4⟩, -, X4, ⟨Lc4, hQ4, l4, y4, z4⟩, st4⟩ := Jvm.LawKit.callS X3 hx (y := (⟨"java/lang/StringLatin1", "charAt", "([BI)C"⟩ : MethodName)) hown (mvT hZ (ww hw 67 rfl)) (mvT hZ (ww hw 68 rfl)) (mvT hZ (ww hw 69 rfl)) (mvT hZ (ww hw 70 rfl)) (by decide) (backOf (W := 0) (rmLch_2_0 l Z a0 hw [] zC vF hvF GS t kB c0.toInt8.toInt32 c1.toInt8.toInt32 h0 n0 (by omega) O0 Vt) hZ (ww hw 70 rfl) (ww hw 69 rfl) (by decide) (by decide)) (g := (mkF m 12 #[.val (.ref x), .val (.int 0)] [.int 0, .ref t])) rfl (by rw [hml]; rfl) (argsL := [.ref t, .int 0]) (rest := []) (lenOf own_pd_9 rfl) rfl (by show 2 * 0 + _ ≤ _; exact Nat.le_of_eq rfl) (hb hby own_d13_12) (fun _ _ => ⟨rfl, e3, (by decide : 0 + 0 ≤ _), (by decide : 0 + 0 ≤ _)⟩)
 dsimp only [Pt.U, Pt.locs, Pt.cells, Pt.slots] at X4 l4 y4 z4 st4 hQ4
 subst l4 y4 z4
 obtain ⟨rfl, N4q, e4⟩ := hQ4
 have N5 := Fr.app N2 N4q
 refine own_by (T' := T4) (g' := (mkF m 15 #[.val (.ref x), .val (.int 0)] [(.int ((c0.toInt8.toInt32 &&& (255 : Int32)).toUInt32.toUInt16.toUInt32.toInt32))])) st4 ?_
 have hn6 : nar .char ((c0.toInt8.toInt32 &&& (255 : Int32)).toUInt32.toUInt16.toUInt32.toInt32) = ((c0.toInt8.toInt32 &&& (255 : Int32)).toUInt32.toUInt16.toUInt32.toInt32) := (own_narC _)
 have hr7 : ((c0.toInt8.toInt32 &&& (255 : Int32)).toUInt32.toUInt16.toUInt32.toInt32) = c0 := own_chr okc
 obtain ⟨fs8, hr8, hrun8, hended8, hW8, hsame8⟩ := X4.leave (v := some (.int (nar .char ((c0.toInt8.toInt32 &&& (255 : Int32)).toUInt32.toUInt16.toUInt32.toInt32)))) (fun h => by rw [Bd.returns] at h; cases h)
 refine ⟨_, _, retN X4 hx (t := .char) Bd.returns (by simp) (hb hby own_d13_15) hr8, hrun8, hended8, _, _, rfl, ?_, ⟨_, rfl⟩, hW8, hsame8.mono (by decide) (by decide)⟩
 show Q_rmChr_2_0 Z zC vF hvF x t kB c0 c1 h0 n0 _ T4.heap _
 exact ⟨(congrArg (fun z => some (Value.int z)) (hn6.trans hr7)), N5, e4⟩
theorem own_ef_rmLch_2_1 (m : MethodId) (x0 : Addr) (x1 : Int32) : entryFrame m #[.ref x0, .int x1] 2 = mkF m 0 #[.val (.ref x0), .val (.int x1)] [] := by first | (simp [entryFrame, mkF, argsToLocals, Value.category]; done) | rfl
def Q_rmLch_2_1 (Z : State) (zC : Int32) (vF : Value) (hvF : vF.isRef = true) (t : Addr) (kB : ClassId) (b0 : Int32) (b1 : Int32) (h0 : Heap) (n0 : Nat) (vv_ : Option Value) (hh_ : Heap) (LL_ : List Loc) : Prop := vv_ = some (.int ((b1 &&& (255 : Int32)).toUInt32.toUInt16.toUInt32.toInt32)) ∧ Fr n0 LL_ ∧ hh_ = h0
set_option maxRecDepth 65536 in
set_option maxHeartbeats 40000000 in
theorem rmLch_2_1 (l : Launch) (Z : State) (a0 : Array Value) (hw : ∀ d ∈ tables_1, d.before a0 Z = true) (ws : List Jvm.Cond) (zC : Int32) (vF : Value) (hvF : vF.isRef = true) (GS : Glob Z zC vF hvF) (t : Addr) (kB : ClassId) (b0 : Int32) (b1 : Int32) (h0 : Heap) (n0 : Nat) (Z0 : n0 ≤ h0.size) (O0 : Old Z n0 h0) (Vt : Arv Z h0 t kB .byte (2 : Int32) [.int b0, .int b1] (.int 0)) :
  MetFree l (⟨"java/lang/StringLatin1", "charAt", "([BI)C"⟩ : MethodName) (head1 (Jvm.Cond.code (⟨"java/lang/StringLatin1", "charAt", "([BI)C"⟩ : MethodName) jdk_43_method_2_code 2 (some .char) :: ws) (⟨2, 0, 0, 27⟩ : Room)) (fun aa_ UU_ => aa_ = #[.ref t, .int 1] ∧ Z.Warmed39 UU_.vm ∧ UU_.heap = h0) (fun _ _ _ _ _ => True) (fun _ UU_ oo_ UV_ => ∃ vv_ LL_, oo_ = .returned vv_ ∧ Q_rmLch_2_1 Z zC vF hvF t kB b0 b1 h0 n0 vv_ UV_.heap LL_ ∧ FrameEnd UU_ oo_ UV_ LL_ (⟨2, 0, 0, 27⟩ : Room).cells (⟨2, 0, 0, 27⟩ : Room).slots) := by
 refine MetFree.of_bodySF (plainFor_of_name own_pn_java_lang_StringLatin1) hisR ?_
 intro p e s m args below meth c s₁ Bd hml0 hP hK
 obtain ⟨rfl, hZ, hh⟩ := hP
 have hx := Bd.exec
 have hby := Bd.bytes
 have hml : c.maxLocals = 2 := hml0
 have hown : s.vm.findClass "java/lang/StringLatin1" = some m.cls := findClass_of_methodNamed Bd.named
 have hnm := (name_of_methodNamed Bd.named Bd.method).1
 have X0 : Stand p l e (⟨2, 0, 0, 27⟩ : Room) s m #[.ref t, .int 1] below meth c s₁ [] 0 0 := Stand.of_body Bd
 have e0 : s₁.heap = h0 := by rw [← hh, Bd.state]; rfl
 have N0 := Fr.nil n0
 have hn0 : Z.heap.size = n0 := O0.1
 have KT0 : Keep h0 h0 [] := Keep.refl _ _
 refine own_enter (Φ := fun oo_ UV_ => ∃ vv_ LL_, oo_ = .returned vv_ ∧ Q_rmLch_2_1 Z zC vF hvF t kB b0 b1 h0 n0 vv_ UV_.heap LL_ ∧ FrameEnd s oo_ UV_ LL_ (⟨2, 0, 0, 27⟩ : Room).cells (⟨2, 0, 0, 27⟩ : Room).slots) (own_ef_rmLch_2_1 m t (1 : Int32)) ?_
 refine own_by (T' := s₁) (g' := (mkF m 1 #[.val (.ref t), .val (.int 1)] [.int 1])) (fun _ kt_ => XS.iloadN X0.here hx rfl (hb hby own_d15_0) rfl kt_) ?_
 refine own_by (T' := s₁) (g' := (mkF m 2 #[.val (.ref t), .val (.int 1)] [.ref t, .int 1])) (fun _ kt_ => XS.aloadN X0.here hx rfl (hb hby own_d15_1) rfl rfl kt_) ?_
 obtain ⟨cl1, Ar1, q1, S1, M1, H1, G1⟩ := id Vt
 refine own_by (T' := s₁) (g' := (mkF m 3 #[.val (.ref t), .val (.int 1)] [.int 2, .int 1])) (fun _ kt_ => X0.arraylength hx (by rw [e0]; exact Ar1.1) (State.isArrayOf_alike hZ.alike Ar1.2.1) (g := (mkF m 2 #[.val (.ref t), .val (.int 1)] [.ref t, .int 1])) rfl rfl (hb hby own_d15_2) _ (by rw [len_of S1 M1]; exact kt_)) ?_
 obtain ⟨_, _, ⟨T2, L2, k2, n2⟩, -, X2, ⟨Lc2, hQ2, l2, y2, z2⟩, st2⟩ := Jvm.LawKit.callS X0 hx (y := (⟨"java/lang/String", "checkIndex", "(II)V"⟩ : MethodName)) hown (mvT hZ (ww hw 71 rfl)) (mvT hZ (ww hw 72 rfl)) (mvT hZ (ww hw 9 rfl)) (mvT hZ (ww hw 73 rfl)) (by decide) (backOf (W := 0) (rmCi l Z a0 hw [] zC vF hvF GS (1 : Int32) (2 : Int32) h0 n0 (by omega) O0 (by decide) (by decide)) hZ (ww hw 73 rfl) (ww hw 9 rfl) (by decide) (by decide)) (g := (mkF m 3 #[.val (.ref t), .val (.int 1)] [.int 2, .int 1])) rfl (by rw [hml]; rfl) (argsL := [.int 1, .int 2]) (rest := []) (lenOf own_pd_7 rfl) rfl (by show 2 * 0 + _ ≤ _; exact Nat.le_of_eq rfl) (hb hby own_d15_3) (fun _ _ => ⟨rfl, e0, (by decide : 0 + 0 ≤ _), (by decide : 0 + 0 ≤ _)⟩)
 dsimp only [Pt.U, Pt.locs, Pt.cells, Pt.slots] at X2 l2 y2 z2 st2 hQ2
 subst l2 y2 z2
 obtain ⟨rfl, N2q, e2⟩ := hQ2
 have N3 := Fr.app N0 N2q
 refine own_by (T' := T2) (g' := (mkF m 6 #[.val (.ref t), .val (.int 1)] [])) st2 ?_
 refine own_by (T' := T2) (g' := (mkF m 7 #[.val (.ref t), .val (.int 1)] [.ref t])) (fun _ kt_ => XS.aloadN X2.here hx rfl (hb hby own_d15_6) rfl rfl kt_) ?_
 refine own_by (T' := T2) (g' := (mkF m 8 #[.val (.ref t), .val (.int 1)] [.int 1, .ref t])) (fun _ kt_ => XS.iloadN X2.here hx rfl (hb hby own_d15_7) rfl kt_) ?_
 obtain ⟨cl4, Ar4, q4, S4, M4, H4, G4⟩ := id Vt
 have hin4 : ¬ ((1 : Int32) < 0 ∨ cl4.slots.size ≤ ((1 : Int32)).toNatClampNeg) := inb_of S4 ⟨by decide, by decide⟩
 have hat4 : cl4.slots[((1 : Int32)).toNatClampNeg]? = some (.int b1) := H4.at hin4 rfl
 refine own_by (T' := T2) (g' := (mkF m 9 #[.val (.ref t), .val (.int 1)] [.int b1])) (fun _ kt_ => X2.baloadBytes hx (j := (1 : Int32)) (v := (.int b1)) (by rw [e2]; exact Ar4.1) (State.isArrayOf_alike hZ.alike Ar4.2.1) Ar4.2.2 hin4 hat4 (g := (mkF m 8 #[.val (.ref t), .val (.int 1)] [.int 1, .ref t])) rfl rfl (hb hby own_d15_8) _ kt_) ?_
 refine own_by (T' := T2) (g' := (mkF m 12 #[.val (.ref t), .val (.int 1)] [.int 255, .int b1])) (fun _ kt_ => XS.sipush X2.here hx rfl (hb hby own_d15_9) kt_) ?_
 refine own_by (T' := T2) (g' := (mkF m 13 #[.val (.ref t), .val (.int 1)] [(.int (b1 &&& (255 : Int32)))])) (fun _ kt_ => XS.iand X2.here hx rfl (hb hby own_d15_12) rfl kt_) ?_
 refine own_by (T' := T2) (g' := (mkF m 14 #[.val (.ref t), .val (.int 1)] [(.int (b1 &&& (255 : Int32)).toUInt32.toUInt16.toUInt32.toInt32)])) (fun _ kt_ => XS.i2c X2.here hx rfl (hb hby own_d15_13) rfl kt_) ?_
 have hn5 : nar .char ((b1 &&& (255 : Int32)).toUInt32.toUInt16.toUInt32.toInt32) = (b1 &&& (255 : Int32)).toUInt32.toUInt16.toUInt32.toInt32 := (own_narC _)
 have hr6 : (b1 &&& (255 : Int32)).toUInt32.toUInt16.toUInt32.toInt32 = ((b1 &&& (255 : Int32)).toUInt32.toUInt16.toUInt32.toInt32) := by simp []
 obtain ⟨fs7, hr7, hrun7, hended7, hW7, hsame7⟩ := X2.leave (v := some (.int (nar .char ((b1 &&& (255 : Int32)).toUInt32.toUInt16.toUInt32.toInt32)))) (fun h => by rw [Bd.returns] at h; cases h)
 refine ⟨_, _, retN X2 hx (t := .char) Bd.returns (by simp) (hb hby own_d15_14) hr7, hrun7, hended7, _, _, rfl, ?_, ⟨_, rfl⟩, hW7, hsame7.mono (by decide) (by decide)⟩
 show Q_rmLch_2_1 Z zC vF hvF t kB b0 b1 h0 n0 _ T2.heap _
 exact ⟨(congrArg (fun z => some (Value.int z)) (hn5.trans hr6)), N3, e2⟩
theorem own_ef_rmChr_2_1 (m : MethodId) (x0 : Addr) (x1 : Int32) : entryFrame m #[.ref x0, .int x1] 2 = mkF m 0 #[.val (.ref x0), .val (.int x1)] [] := by first | (simp [entryFrame, mkF, argsToLocals, Value.category]; done) | rfl
def Q_rmChr_2_1 (Z : State) (zC : Int32) (vF : Value) (hvF : vF.isRef = true) (x : Addr) (t : Addr) (kB : ClassId) (c0 : Int32) (c1 : Int32) (h0 : Heap) (n0 : Nat) (vv_ : Option Value) (hh_ : Heap) (LL_ : List Loc) : Prop := vv_ = some (.int c1) ∧ Fr n0 LL_ ∧ hh_ = h0
set_option maxRecDepth 65536 in
set_option maxHeartbeats 40000000 in
theorem rmChr_2_1 (l : Launch) (Z : State) (a0 : Array Value) (hw : ∀ d ∈ tables_1, d.before a0 Z = true) (ws : List Jvm.Cond) (zC : Int32) (vF : Value) (hvF : vF.isRef = true) (GS : Glob Z zC vF hvF) (x : Addr) (t : Addr) (kB : ClassId) (c0 : Int32) (c1 : Int32) (h0 : Heap) (n0 : Nat) (Z0 : n0 ≤ h0.size) (O0 : Old Z n0 h0) (E_x : Exa Z h0 x "java/lang/String") (Fv : Fld Z h0 x "java/lang/String" "value" "[B" (.ref t)) (Fc : Fld Z h0 x "java/lang/String" "coder" "B" (.int 0)) (Vt : Arv Z h0 t kB .byte (2 : Int32) [(.int c0.toInt8.toInt32), (.int c1.toInt8.toInt32)] (.int 0)) (okc : okF c1) :
  MetFree l (⟨"java/lang/String", "charAt", "(I)C"⟩ : MethodName) (head1 (Jvm.Cond.code (⟨"java/lang/String", "charAt", "(I)C"⟩ : MethodName) jdk_42_method_56_code 2 (some .char) :: ws) (⟨3, 0, 0, 40⟩ : Room)) (fun aa_ UU_ => aa_ = #[.ref x, .int 1] ∧ Z.Warmed39 UU_.vm ∧ UU_.heap = h0) (fun _ _ _ _ _ => True) (fun _ UU_ oo_ UV_ => ∃ vv_ LL_, oo_ = .returned vv_ ∧ Q_rmChr_2_1 Z zC vF hvF x t kB c0 c1 h0 n0 vv_ UV_.heap LL_ ∧ FrameEnd UU_ oo_ UV_ LL_ (⟨3, 0, 0, 40⟩ : Room).cells (⟨3, 0, 0, 40⟩ : Room).slots) := by
 refine MetFree.of_bodySF (plainFor_of_name own_pn_java_lang_String) hisR ?_
 intro p e s m args below meth c s₁ Bd hml0 hP hK
 obtain ⟨rfl, hZ, hh⟩ := hP
 have hx := Bd.exec
 have hby := Bd.bytes
 have hml : c.maxLocals = 2 := hml0
 have hown : s.vm.findClass "java/lang/String" = some m.cls := findClass_of_methodNamed Bd.named
 have hnm := (name_of_methodNamed Bd.named Bd.method).1
 have X0 : Stand p l e (⟨3, 0, 0, 40⟩ : Room) s m #[.ref x, .int 1] below meth c s₁ [] 0 0 := Stand.of_body Bd
 have e0 : s₁.heap = h0 := by rw [← hh, Bd.state]; rfl
 have N0 := Fr.nil n0
 have hn0 : Z.heap.size = n0 := O0.1
 have KT0 : Keep h0 h0 [] := Keep.refl _ _
 refine own_enter (Φ := fun oo_ UV_ => ∃ vv_ LL_, oo_ = .returned vv_ ∧ Q_rmChr_2_1 Z zC vF hvF x t kB c0 c1 h0 n0 vv_ UV_.heap LL_ ∧ FrameEnd s oo_ UV_ LL_ (⟨3, 0, 0, 40⟩ : Room).cells (⟨3, 0, 0, 40⟩ : Room).slots) (own_ef_rmChr_2_1 m x (1 : Int32)) ?_
 refine own_by (T' := s₁) (g' := (mkF m 1 #[.val (.ref x), .val (.int 1)] [.ref x])) (fun _ kt_ => XS.aloadN X0.here hx rfl (hb hby own_d13_0) rfl rfl kt_) ?_
 obtain ⟨cq1, kq1, q1a, q1b, q1c⟩ := isOf hZ e0 E_x
 obtain ⟨_, _, ⟨T1, L1, k1, n1⟩, -, X1, ⟨Lc1, hQ1, l1, y1, z1⟩, st1⟩ := X0.virtualBack hx (y := (⟨"java/lang/String", "isLatin1", "()Z"⟩ : MethodName)) (z := (⟨"java/lang/String", "isLatin1", "()Z"⟩ : MethodName)) hown (mvT hZ (ww hw 62 rfl)) (mvT hZ (ww hw 63 rfl)) (notFace_of_selects (args := #[]) (mvT hZ (ww hw 65 rfl))) (mvT hZ (ww hw 65 rfl)) (mvT hZ (ww hw 64 rfl)) (by decide) (backOf (W := 0) (rmLat l Z a0 hw [] zC vF hvF GS x h0 n0 (by omega) O0 Fc) hZ (ww hw 66 rfl) (ww hw 9 rfl) (by decide) (by decide)) q1a q1c (g := (mkF m 1 #[.val (.ref x), .val (.int 1)] [.ref x])) rfl (by rw [hml]; rfl) (Steps.refl _) (argsL := []) (rest := []) (lenOf own_pd_8 rfl) rfl (by show 2 * 0 + _ ≤ _; exact Nat.le_of_eq rfl) (hb hby own_d13_1) (fun _ _ => ⟨rfl, e0, (by decide : 0 + 0 ≤ _), (by decide : 0 + 0 ≤ _)⟩)
 dsimp only [Pt.U, Pt.locs, Pt.cells, Pt.slots] at X1 l1 y1 z1 st1 hQ1
 subst l1 y1 z1
 obtain ⟨rfl, N1q, e1⟩ := hQ1
 have N2 := Fr.app N0 N1q
 refine own_by (T' := T1) (g' := (mkF m 4 #[.val (.ref x), .val (.int 1)] [.int 1])) (fun _ kt_ => st1.trans kt_) ?_
 refine own_by (T' := T1) (g' := (mkF m 7 #[.val (.ref x), .val (.int 1)] [])) (fun _ kt_ => XS.ifNo X1.here hx rfl (hb hby own_d13_4) rfl (XT.i0_eq_f (by decide)) kt_) ?_
 refine own_by (T' := T1) (g' := (mkF m 8 #[.val (.ref x), .val (.int 1)] [.ref x])) (fun _ kt_ => XS.aloadN X1.here hx rfl (hb hby own_d13_7) rfl rfl kt_) ?_
 obtain ⟨T3, X3, e3, st3⟩ := getF X1 hx hZ hown (host := "") (Or.inl (ww hw 27 rfl)) Via.refl e1 Fv (g := (mkF m 8 #[.val (.ref x), .val (.int 1)] [.ref x])) rfl rfl (hb hby own_d13_8)
 refine own_by (T' := T3) (g' := (mkF m 11 #[.val (.ref x), .val (.int 1)] [.ref t])) st3 ?_
 refine own_by (T' := T3) (g' := (mkF m 12 #[.val (.ref x), .val (.int 1)] [.int 1, .ref t])) (fun _ kt_ => XS.iloadN X3.here hx rfl (hb hby own_d13_11) rfl kt_) ?_
 obtain ⟨_, _, ⟨T4, L4, k4, n4⟩, -, X4, ⟨Lc4, hQ4, l4, y4, z4⟩, st4⟩ := Jvm.LawKit.callS X3 hx (y := (⟨"java/lang/StringLatin1", "charAt", "([BI)C"⟩ : MethodName)) hown (mvT hZ (ww hw 67 rfl)) (mvT hZ (ww hw 68 rfl)) (mvT hZ (ww hw 69 rfl)) (mvT hZ (ww hw 70 rfl)) (by decide) (backOf (W := 0) (rmLch_2_1 l Z a0 hw [] zC vF hvF GS t kB c0.toInt8.toInt32 c1.toInt8.toInt32 h0 n0 (by omega) O0 Vt) hZ (ww hw 70 rfl) (ww hw 69 rfl) (by decide) (by decide)) (g := (mkF m 12 #[.val (.ref x), .val (.int 1)] [.int 1, .ref t])) rfl (by rw [hml]; rfl) (argsL := [.ref t, .int 1]) (rest := []) (lenOf own_pd_9 rfl) rfl (by show 2 * 0 + _ ≤ _; exact Nat.le_of_eq rfl) (hb hby own_d13_12) (fun _ _ => ⟨rfl, e3, (by decide : 0 + 0 ≤ _), (by decide : 0 + 0 ≤ _)⟩)
 dsimp only [Pt.U, Pt.locs, Pt.cells, Pt.slots] at X4 l4 y4 z4 st4 hQ4
 subst l4 y4 z4
 obtain ⟨rfl, N4q, e4⟩ := hQ4
 have N5 := Fr.app N2 N4q
 refine own_by (T' := T4) (g' := (mkF m 15 #[.val (.ref x), .val (.int 1)] [(.int ((c1.toInt8.toInt32 &&& (255 : Int32)).toUInt32.toUInt16.toUInt32.toInt32))])) st4 ?_
 have hn6 : nar .char ((c1.toInt8.toInt32 &&& (255 : Int32)).toUInt32.toUInt16.toUInt32.toInt32) = ((c1.toInt8.toInt32 &&& (255 : Int32)).toUInt32.toUInt16.toUInt32.toInt32) := (own_narC _)
 have hr7 : ((c1.toInt8.toInt32 &&& (255 : Int32)).toUInt32.toUInt16.toUInt32.toInt32) = c1 := own_chr okc
 obtain ⟨fs8, hr8, hrun8, hended8, hW8, hsame8⟩ := X4.leave (v := some (.int (nar .char ((c1.toInt8.toInt32 &&& (255 : Int32)).toUInt32.toUInt16.toUInt32.toInt32)))) (fun h => by rw [Bd.returns] at h; cases h)
 refine ⟨_, _, retN X4 hx (t := .char) Bd.returns (by simp) (hb hby own_d13_15) hr8, hrun8, hended8, _, _, rfl, ?_, ⟨_, rfl⟩, hW8, hsame8.mono (by decide) (by decide)⟩
 show Q_rmChr_2_1 Z zC vF hvF x t kB c0 c1 h0 n0 _ T4.heap _
 exact ⟨(congrArg (fun z => some (Value.int z)) (hn6.trans hr7)), N5, e4⟩
theorem own_ef_rmLen_3 (m : MethodId) (x0 : Addr) : entryFrame m #[.ref x0] 1 = mkF m 0 #[.val (.ref x0)] [] := by first | (simp [entryFrame, mkF, argsToLocals, Value.category]; done) | rfl
def Q_rmLen_3 (Z : State) (zC : Int32) (vF : Value) (hvF : vF.isRef = true) (x : Addr) (t : Addr) (kB : ClassId) (c0 : Int32) (c1 : Int32) (c2 : Int32) (h0 : Heap) (n0 : Nat) (vv_ : Option Value) (hh_ : Heap) (LL_ : List Loc) : Prop := vv_ = some (.int 3) ∧ Fr n0 LL_ ∧ hh_ = h0
set_option maxRecDepth 65536 in
set_option maxHeartbeats 40000000 in
theorem rmLen_3 (l : Launch) (Z : State) (a0 : Array Value) (hw : ∀ d ∈ tables_1, d.before a0 Z = true) (ws : List Jvm.Cond) (zC : Int32) (vF : Value) (hvF : vF.isRef = true) (GS : Glob Z zC vF hvF) (x : Addr) (t : Addr) (kB : ClassId) (c0 : Int32) (c1 : Int32) (c2 : Int32) (h0 : Heap) (n0 : Nat) (Z0 : n0 ≤ h0.size) (O0 : Old Z n0 h0) (E_x : Exa Z h0 x "java/lang/String") (Fv : Fld Z h0 x "java/lang/String" "value" "[B" (.ref t)) (Fc : Fld Z h0 x "java/lang/String" "coder" "B" (.int 0)) (Vt : Arv Z h0 t kB .byte (3 : Int32) [(.int c0.toInt8.toInt32), (.int c1.toInt8.toInt32), (.int c2.toInt8.toInt32)] (.int 0)) :
  MetFree l (⟨"java/lang/String", "length", "()I"⟩ : MethodName) (head1 (Jvm.Cond.code (⟨"java/lang/String", "length", "()I"⟩ : MethodName) jdk_42_method_54_code 1 (some .int) :: ws) (⟨1, 0, 0, 13⟩ : Room)) (fun aa_ UU_ => aa_ = #[.ref x] ∧ Z.Warmed39 UU_.vm ∧ UU_.heap = h0) (fun _ _ _ _ _ => True) (fun _ UU_ oo_ UV_ => ∃ vv_ LL_, oo_ = .returned vv_ ∧ Q_rmLen_3 Z zC vF hvF x t kB c0 c1 c2 h0 n0 vv_ UV_.heap LL_ ∧ FrameEnd UU_ oo_ UV_ LL_ (⟨1, 0, 0, 13⟩ : Room).cells (⟨1, 0, 0, 13⟩ : Room).slots) := by
 refine MetFree.of_bodySF (plainFor_of_name own_pn_java_lang_String) hisR ?_
 intro p e s m args below meth c s₁ Bd hml0 hP hK
 obtain ⟨rfl, hZ, hh⟩ := hP
 have hx := Bd.exec
 have hby := Bd.bytes
 have hml : c.maxLocals = 1 := hml0
 have hown : s.vm.findClass "java/lang/String" = some m.cls := findClass_of_methodNamed Bd.named
 have hnm := (name_of_methodNamed Bd.named Bd.method).1
 have X0 : Stand p l e (⟨1, 0, 0, 13⟩ : Room) s m #[.ref x] below meth c s₁ [] 0 0 := Stand.of_body Bd
 have e0 : s₁.heap = h0 := by rw [← hh, Bd.state]; rfl
 have N0 := Fr.nil n0
 have hn0 : Z.heap.size = n0 := O0.1
 have KT0 : Keep h0 h0 [] := Keep.refl _ _
 refine own_enter (Φ := fun oo_ UV_ => ∃ vv_ LL_, oo_ = .returned vv_ ∧ Q_rmLen_3 Z zC vF hvF x t kB c0 c1 c2 h0 n0 vv_ UV_.heap LL_ ∧ FrameEnd s oo_ UV_ LL_ (⟨1, 0, 0, 13⟩ : Room).cells (⟨1, 0, 0, 13⟩ : Room).slots) (own_ef_rmLen_3 m x) ?_
 refine own_by (T' := s₁) (g' := (mkF m 1 #[.val (.ref x)] [.ref x])) (fun _ kt_ => XS.aloadN X0.here hx rfl (hb hby own_d7_0) rfl rfl kt_) ?_
 obtain ⟨T1, X1, e1, st1⟩ := getF X0 hx hZ hown (host := "") (Or.inl (ww hw 27 rfl)) Via.refl e0 Fv (g := (mkF m 1 #[.val (.ref x)] [.ref x])) rfl rfl (hb hby own_d7_1)
 refine own_by (T' := T1) (g' := (mkF m 4 #[.val (.ref x)] [.ref t])) st1 ?_
 obtain ⟨cl2, Ar2, q2, S2, M2, H2, G2⟩ := id Vt
 refine own_by (T' := T1) (g' := (mkF m 5 #[.val (.ref x)] [.int 3])) (fun _ kt_ => X1.arraylength hx (by rw [e1]; exact Ar2.1) (State.isArrayOf_alike hZ.alike Ar2.2.1) (g := (mkF m 4 #[.val (.ref x)] [.ref t])) rfl rfl (hb hby own_d7_4) _ (by rw [len_of S2 M2]; exact kt_)) ?_
 refine own_by (T' := T1) (g' := (mkF m 6 #[.val (.ref x)] [.ref x, .int 3])) (fun _ kt_ => XS.aloadN X1.here hx rfl (hb hby own_d7_5) rfl rfl kt_) ?_
 obtain ⟨cq3, kq3, q3a, q3b, q3c⟩ := isOf hZ e1 E_x
 obtain ⟨_, _, ⟨T3, L3, k3, n3⟩, -, X3, ⟨Lc3, hQ3, l3, y3, z3⟩, st3⟩ := X1.virtualBack hx (y := (⟨"java/lang/String", "coder", "()B"⟩ : MethodName)) (z := (⟨"java/lang/String", "coder", "()B"⟩ : MethodName)) hown (mvT hZ (ww hw 38 rfl)) (mvT hZ (ww hw 39 rfl)) (notFace_of_selects (args := #[]) (mvT hZ (ww hw 41 rfl))) (mvT hZ (ww hw 41 rfl)) (mvT hZ (ww hw 40 rfl)) (by decide) (backOf (W := 1) (rmCoder l Z a0 hw [] zC vF hvF GS x h0 n0 (by omega) O0 Fc) hZ (ww hw 42 rfl) (ww hw 9 rfl) (by decide) (by decide)) q3a q3c (g := (mkF m 6 #[.val (.ref x)] [.ref x, .int 3])) rfl (by rw [hml]; rfl) (Steps.refl _) (argsL := []) (rest := [.int 3]) (lenOf own_pd_6 rfl) rfl (by show 2 * 0 + _ ≤ _; exact Nat.le_of_eq rfl) (hb hby own_d7_6) (fun _ _ => ⟨rfl, e1, (by decide : 0 + 0 ≤ _), (by decide : 0 + 0 ≤ _)⟩)
 dsimp only [Pt.U, Pt.locs, Pt.cells, Pt.slots] at X3 l3 y3 z3 st3 hQ3
 subst l3 y3 z3
 obtain ⟨rfl, N3q, e3⟩ := hQ3
 have N4 := Fr.app N0 N3q
 refine own_by (T' := T3) (g' := (mkF m 9 #[.val (.ref x)] [.int 0, .int 3])) (fun _ kt_ => st3.trans kt_) ?_
 refine own_by (T' := T3) (g' := (mkF m 10 #[.val (.ref x)] [(.int ((3 : Int32) >>> ((0 : Int32) &&& 31)))])) (fun _ kt_ => XS.ishr X3.here hx rfl (hb hby own_d7_9) rfl kt_) ?_
 have hr5 : ((3 : Int32) >>> ((0 : Int32) &&& 31)) = (3 : Int32) := by decide
 obtain ⟨fs6, hr6, hrun6, hended6, hW6, hsame6⟩ := X3.leave (v := some (.int ((3 : Int32) >>> ((0 : Int32) &&& 31)))) (fun h => by rw [Bd.returns] at h; cases h)
 refine ⟨_, _, retOut X3 hx (t := .int) Bd.returns rfl (Or.inl ⟨rfl, Or.inl rfl, _, rfl⟩) (hb hby own_d7_10) hr6, hrun6, hended6, _, _, rfl, ?_, ⟨_, rfl⟩, hW6, hsame6.mono (by decide) (by decide)⟩
 show Q_rmLen_3 Z zC vF hvF x t kB c0 c1 c2 h0 n0 _ T3.heap _
 exact ⟨(congrArg (fun z => some (Value.int z)) hr5), N4, e3⟩
theorem own_ef_rmLch_3_0 (m : MethodId) (x0 : Addr) (x1 : Int32) : entryFrame m #[.ref x0, .int x1] 2 = mkF m 0 #[.val (.ref x0), .val (.int x1)] [] := by first | (simp [entryFrame, mkF, argsToLocals, Value.category]; done) | rfl
def Q_rmLch_3_0 (Z : State) (zC : Int32) (vF : Value) (hvF : vF.isRef = true) (t : Addr) (kB : ClassId) (b0 : Int32) (b1 : Int32) (b2 : Int32) (h0 : Heap) (n0 : Nat) (vv_ : Option Value) (hh_ : Heap) (LL_ : List Loc) : Prop := vv_ = some (.int ((b0 &&& (255 : Int32)).toUInt32.toUInt16.toUInt32.toInt32)) ∧ Fr n0 LL_ ∧ hh_ = h0
set_option maxRecDepth 65536 in
set_option maxHeartbeats 40000000 in
theorem rmLch_3_0 (l : Launch) (Z : State) (a0 : Array Value) (hw : ∀ d ∈ tables_1, d.before a0 Z = true) (ws : List Jvm.Cond) (zC : Int32) (vF : Value) (hvF : vF.isRef = true) (GS : Glob Z zC vF hvF) (t : Addr) (kB : ClassId) (b0 : Int32) (b1 : Int32) (b2 : Int32) (h0 : Heap) (n0 : Nat) (Z0 : n0 ≤ h0.size) (O0 : Old Z n0 h0) (Vt : Arv Z h0 t kB .byte (3 : Int32) [.int b0, .int b1, .int b2] (.int 0)) :
  MetFree l (⟨"java/lang/StringLatin1", "charAt", "([BI)C"⟩ : MethodName) (head1 (Jvm.Cond.code (⟨"java/lang/StringLatin1", "charAt", "([BI)C"⟩ : MethodName) jdk_43_method_2_code 2 (some .char) :: ws) (⟨2, 0, 0, 27⟩ : Room)) (fun aa_ UU_ => aa_ = #[.ref t, .int 0] ∧ Z.Warmed39 UU_.vm ∧ UU_.heap = h0) (fun _ _ _ _ _ => True) (fun _ UU_ oo_ UV_ => ∃ vv_ LL_, oo_ = .returned vv_ ∧ Q_rmLch_3_0 Z zC vF hvF t kB b0 b1 b2 h0 n0 vv_ UV_.heap LL_ ∧ FrameEnd UU_ oo_ UV_ LL_ (⟨2, 0, 0, 27⟩ : Room).cells (⟨2, 0, 0, 27⟩ : Room).slots) := by
 refine MetFree.of_bodySF (plainFor_of_name own_pn_java_lang_StringLatin1) hisR ?_
 intro p e s m args below meth c s₁ Bd hml0 hP hK
 obtain ⟨rfl, hZ, hh⟩ := hP
 have hx := Bd.exec
 have hby := Bd.bytes
 have hml : c.maxLocals = 2 := hml0
 have hown : s.vm.findClass "java/lang/StringLatin1" = some m.cls := findClass_of_methodNamed Bd.named
 have hnm := (name_of_methodNamed Bd.named Bd.method).1
 have X0 : Stand p l e (⟨2, 0, 0, 27⟩ : Room) s m #[.ref t, .int 0] below meth c s₁ [] 0 0 := Stand.of_body Bd
 have e0 : s₁.heap = h0 := by rw [← hh, Bd.state]; rfl
 have N0 := Fr.nil n0
 have hn0 : Z.heap.size = n0 := O0.1
 have KT0 : Keep h0 h0 [] := Keep.refl _ _
 refine own_enter (Φ := fun oo_ UV_ => ∃ vv_ LL_, oo_ = .returned vv_ ∧ Q_rmLch_3_0 Z zC vF hvF t kB b0 b1 b2 h0 n0 vv_ UV_.heap LL_ ∧ FrameEnd s oo_ UV_ LL_ (⟨2, 0, 0, 27⟩ : Room).cells (⟨2, 0, 0, 27⟩ : Room).slots) (own_ef_rmLch_3_0 m t (0 : Int32)) ?_
 refine own_by (T' := s₁) (g' := (mkF m 1 #[.val (.ref t), .val (.int 0)] [.int 0])) (fun _ kt_ => XS.iloadN X0.here hx rfl (hb hby own_d15_0) rfl kt_) ?_
 refine own_by (T' := s₁) (g' := (mkF m 2 #[.val (.ref t), .val (.int 0)] [.ref t, .int 0])) (fun _ kt_ => XS.aloadN X0.here hx rfl (hb hby own_d15_1) rfl rfl kt_) ?_
 obtain ⟨cl1, Ar1, q1, S1, M1, H1, G1⟩ := id Vt
 refine own_by (T' := s₁) (g' := (mkF m 3 #[.val (.ref t), .val (.int 0)] [.int 3, .int 0])) (fun _ kt_ => X0.arraylength hx (by rw [e0]; exact Ar1.1) (State.isArrayOf_alike hZ.alike Ar1.2.1) (g := (mkF m 2 #[.val (.ref t), .val (.int 0)] [.ref t, .int 0])) rfl rfl (hb hby own_d15_2) _ (by rw [len_of S1 M1]; exact kt_)) ?_
 obtain ⟨_, _, ⟨T2, L2, k2, n2⟩, -, X2, ⟨Lc2, hQ2, l2, y2, z2⟩, st2⟩ := Jvm.LawKit.callS X0 hx (y := (⟨"java/lang/String", "checkIndex", "(II)V"⟩ : MethodName)) hown (mvT hZ (ww hw 71 rfl)) (mvT hZ (ww hw 72 rfl)) (mvT hZ (ww hw 9 rfl)) (mvT hZ (ww hw 73 rfl)) (by decide) (backOf (W := 0) (rmCi l Z a0 hw [] zC vF hvF GS (0 : Int32) (3 : Int32) h0 n0 (by omega) O0 (by decide) (by decide)) hZ (ww hw 73 rfl) (ww hw 9 rfl) (by decide) (by decide)) (g := (mkF m 3 #[.val (.ref t), .val (.int 0)] [.int 3, .int 0])) rfl (by rw [hml]; rfl) (argsL := [.int 0, .int 3]) (rest := []) (lenOf own_pd_7 rfl) rfl (by show 2 * 0 + _ ≤ _; exact Nat.le_of_eq rfl) (hb hby own_d15_3) (fun _ _ => ⟨rfl, e0, (by decide : 0 + 0 ≤ _), (by decide : 0 + 0 ≤ _)⟩)
 dsimp only [Pt.U, Pt.locs, Pt.cells, Pt.slots] at X2 l2 y2 z2 st2 hQ2
 subst l2 y2 z2
 obtain ⟨rfl, N2q, e2⟩ := hQ2
 have N3 := Fr.app N0 N2q
 refine own_by (T' := T2) (g' := (mkF m 6 #[.val (.ref t), .val (.int 0)] [])) st2 ?_
 refine own_by (T' := T2) (g' := (mkF m 7 #[.val (.ref t), .val (.int 0)] [.ref t])) (fun _ kt_ => XS.aloadN X2.here hx rfl (hb hby own_d15_6) rfl rfl kt_) ?_
 refine own_by (T' := T2) (g' := (mkF m 8 #[.val (.ref t), .val (.int 0)] [.int 0, .ref t])) (fun _ kt_ => XS.iloadN X2.here hx rfl (hb hby own_d15_7) rfl kt_) ?_
 obtain ⟨cl4, Ar4, q4, S4, M4, H4, G4⟩ := id Vt
 have hin4 : ¬ ((0 : Int32) < 0 ∨ cl4.slots.size ≤ ((0 : Int32)).toNatClampNeg) := inb_of S4 ⟨by decide, by decide⟩
 have hat4 : cl4.slots[((0 : Int32)).toNatClampNeg]? = some (.int b0) := H4.at hin4 rfl
 refine own_by (T' := T2) (g' := (mkF m 9 #[.val (.ref t), .val (.int 0)] [.int b0])) (fun _ kt_ => X2.baloadBytes hx (j := (0 : Int32)) (v := (.int b0)) (by rw [e2]; exact Ar4.1) (State.isArrayOf_alike hZ.alike Ar4.2.1) Ar4.2.2 hin4 hat4 (g := (mkF m 8 #[.val (.ref t), .val (.int 0)] [.int 0, .ref t])) rfl rfl (hb hby own_d15_8) _ kt_) ?_
 refine own_by (T' := T2) (g' := (mkF m 12 #[.val (.ref t), .val (.int 0)] [.int 255, .int b0])) (fun _ kt_ => XS.sipush X2.here hx rfl (hb hby own_d15_9) kt_) ?_
 refine own_by (T' := T2) (g' := (mkF m 13 #[.val (.ref t), .val (.int 0)] [(.int (b0 &&& (255 : Int32)))])) (fun _ kt_ => XS.iand X2.here hx rfl (hb hby own_d15_12) rfl kt_) ?_
 refine own_by (T' := T2) (g' := (mkF m 14 #[.val (.ref t), .val (.int 0)] [(.int (b0 &&& (255 : Int32)).toUInt32.toUInt16.toUInt32.toInt32)])) (fun _ kt_ => XS.i2c X2.here hx rfl (hb hby own_d15_13) rfl kt_) ?_
 have hn5 : nar .char ((b0 &&& (255 : Int32)).toUInt32.toUInt16.toUInt32.toInt32) = (b0 &&& (255 : Int32)).toUInt32.toUInt16.toUInt32.toInt32 := (own_narC _)
 have hr6 : (b0 &&& (255 : Int32)).toUInt32.toUInt16.toUInt32.toInt32 = ((b0 &&& (255 : Int32)).toUInt32.toUInt16.toUInt32.toInt32) := by simp []
 obtain ⟨fs7, hr7, hrun7, hended7, hW7, hsame7⟩ := X2.leave (v := some (.int (nar .char ((b0 &&& (255 : Int32)).toUInt32.toUInt16.toUInt32.toInt32)))) (fun h => by rw [Bd.returns] at h; cases h)
 refine ⟨_, _, retN X2 hx (t := .char) Bd.returns (by simp) (hb hby own_d15_14) hr7, hrun7, hended7, _, _, rfl, ?_, ⟨_, rfl⟩, hW7, hsame7.mono (by decide) (by decide)⟩
 show Q_rmLch_3_0 Z zC vF hvF t kB b0 b1 b2 h0 n0 _ T2.heap _
 exact ⟨(congrArg (fun z => some (Value.int z)) (hn5.trans hr6)), N3, e2⟩
theorem own_ef_rmChr_3_0 (m : MethodId) (x0 : Addr) (x1 : Int32) : entryFrame m #[.ref x0, .int x1] 2 = mkF m 0 #[.val (.ref x0), .val (.int x1)] [] := by first | (simp [entryFrame, mkF, argsToLocals, Value.category]; done) | rfl
def Q_rmChr_3_0 (Z : State) (zC : Int32) (vF : Value) (hvF : vF.isRef = true) (x : Addr) (t : Addr) (kB : ClassId) (c0 : Int32) (c1 : Int32) (c2 : Int32) (h0 : Heap) (n0 : Nat) (vv_ : Option Value) (hh_ : Heap) (LL_ : List Loc) : Prop := vv_ = some (.int c0) ∧ Fr n0 LL_ ∧ hh_ = h0
set_option maxRecDepth 65536 in
set_option maxHeartbeats 40000000 in
theorem rmChr_3_0 (l : Launch) (Z : State) (a0 : Array Value) (hw : ∀ d ∈ tables_1, d.before a0 Z = true) (ws : List Jvm.Cond) (zC : Int32) (vF : Value) (hvF : vF.isRef = true) (GS : Glob Z zC vF hvF) (x : Addr) (t : Addr) (kB : ClassId) (c0 : Int32) (c1 : Int32) (c2 : Int32) (h0 : Heap) (n0 : Nat) (Z0 : n0 ≤ h0.size) (O0 : Old Z n0 h0) (E_x : Exa Z h0 x "java/lang/String") (Fv : Fld Z h0 x "java/lang/String" "value" "[B" (.ref t)) (Fc : Fld Z h0 x "java/lang/String" "coder" "B" (.int 0)) (Vt : Arv Z h0 t kB .byte (3 : Int32) [(.int c0.toInt8.toInt32), (.int c1.toInt8.toInt32), (.int c2.toInt8.toInt32)] (.int 0)) (okc : okF c0) :
  MetFree l (⟨"java/lang/String", "charAt", "(I)C"⟩ : MethodName) (head1 (Jvm.Cond.code (⟨"java/lang/String", "charAt", "(I)C"⟩ : MethodName) jdk_42_method_56_code 2 (some .char) :: ws) (⟨3, 0, 0, 40⟩ : Room)) (fun aa_ UU_ => aa_ = #[.ref x, .int 0] ∧ Z.Warmed39 UU_.vm ∧ UU_.heap = h0) (fun _ _ _ _ _ => True) (fun _ UU_ oo_ UV_ => ∃ vv_ LL_, oo_ = .returned vv_ ∧ Q_rmChr_3_0 Z zC vF hvF x t kB c0 c1 c2 h0 n0 vv_ UV_.heap LL_ ∧ FrameEnd UU_ oo_ UV_ LL_ (⟨3, 0, 0, 40⟩ : Room).cells (⟨3, 0, 0, 40⟩ : Room).slots) := by
 refine MetFree.of_bodySF (plainFor_of_name own_pn_java_lang_String) hisR ?_
 intro p e s m args below meth c s₁ Bd hml0 hP hK
 obtain ⟨rfl, hZ, hh⟩ := hP
 have hx := Bd.exec
 have hby := Bd.bytes
 have hml : c.maxLocals = 2 := hml0
 have hown : s.vm.findClass "java/lang/String" = some m.cls := findClass_of_methodNamed Bd.named
 have hnm := (name_of_methodNamed Bd.named Bd.method).1
 have X0 : Stand p l e (⟨3, 0, 0, 40⟩ : Room) s m #[.ref x, .int 0] below meth c s₁ [] 0 0 := Stand.of_body Bd
 have e0 : s₁.heap = h0 := by rw [← hh, Bd.state]; rfl
 have N0 := Fr.nil n0
 have hn0 : Z.heap.size = n0 := O0.1
 have KT0 : Keep h0 h0 [] := Keep.refl _ _
 refine own_enter (Φ := fun oo_ UV_ => ∃ vv_ LL_, oo_ = .returned vv_ ∧ Q_rmChr_3_0 Z zC vF hvF x t kB c0 c1 c2 h0 n0 vv_ UV_.heap LL_ ∧ FrameEnd s oo_ UV_ LL_ (⟨3, 0, 0, 40⟩ : Room).cells (⟨3, 0, 0, 40⟩ : Room).slots) (own_ef_rmChr_3_0 m x (0 : Int32)) ?_
 refine own_by (T' := s₁) (g' := (mkF m 1 #[.val (.ref x), .val (.int 0)] [.ref x])) (fun _ kt_ => XS.aloadN X0.here hx rfl (hb hby own_d13_0) rfl rfl kt_) ?_
 obtain ⟨cq1, kq1, q1a, q1b, q1c⟩ := isOf hZ e0 E_x
 obtain ⟨_, _, ⟨T1, L1, k1, n1⟩, -, X1, ⟨Lc1, hQ1, l1, y1, z1⟩, st1⟩ := X0.virtualBack hx (y := (⟨"java/lang/String", "isLatin1", "()Z"⟩ : MethodName)) (z := (⟨"java/lang/String", "isLatin1", "()Z"⟩ : MethodName)) hown (mvT hZ (ww hw 62 rfl)) (mvT hZ (ww hw 63 rfl)) (notFace_of_selects (args := #[]) (mvT hZ (ww hw 65 rfl))) (mvT hZ (ww hw 65 rfl)) (mvT hZ (ww hw 64 rfl)) (by decide) (backOf (W := 0) (rmLat l Z a0 hw [] zC vF hvF GS x h0 n0 (by omega) O0 Fc) hZ (ww hw 66 rfl) (ww hw 9 rfl) (by decide) (by decide)) q1a q1c (g := (mkF m 1 #[.val (.ref x), .val (.int 0)] [.ref x])) rfl (by rw [hml]; rfl) (Steps.refl _) (argsL := []) (rest := []) (lenOf own_pd_8 rfl) rfl (by show 2 * 0 + _ ≤ _; exact Nat.le_of_eq rfl) (hb hby own_d13_1) (fun _ _ => ⟨rfl, e0, (by decide : 0 + 0 ≤ _), (by decide : 0 + 0 ≤ _)⟩)
 dsimp only [Pt.U, Pt.locs, Pt.cells, Pt.slots] at X1 l1 y1 z1 st1 hQ1
 subst l1 y1 z1
 obtain ⟨rfl, N1q, e1⟩ := hQ1
 have N2 := Fr.app N0 N1q
 refine own_by (T' := T1) (g' := (mkF m 4 #[.val (.ref x), .val (.int 0)] [.int 1])) (fun _ kt_ => st1.trans kt_) ?_
 refine own_by (T' := T1) (g' := (mkF m 7 #[.val (.ref x), .val (.int 0)] [])) (fun _ kt_ => XS.ifNo X1.here hx rfl (hb hby own_d13_4) rfl (XT.i0_eq_f (by decide)) kt_) ?_
 refine own_by (T' := T1) (g' := (mkF m 8 #[.val (.ref x), .val (.int 0)] [.ref x])) (fun _ kt_ => XS.aloadN X1.here hx rfl (hb hby own_d13_7) rfl rfl kt_) ?_
 obtain ⟨T3, X3, e3, st3⟩ := getF X1 hx hZ hown (host := "") (Or.inl (ww hw 27 rfl)) Via.refl e1 Fv (g := (mkF m 8 #[.val (.ref x), .val (.int 0)] [.ref x])) rfl rfl (hb hby own_d13_8)
 refine own_by (T' := T3) (g' := (mkF m 11 #[.val (.ref x), .val (.int 0)] [.ref t])) st3 ?_
 refine own_by (T' := T3) (g' := (mkF m 12 #[.val (.ref x), .val (.int 0)] [.int 0, .ref t])) (fun _ kt_ => XS.iloadN X3.here hx rfl (hb hby own_d13_11) rfl kt_) ?_
 obtain ⟨_, _, ⟨T4, L4, k4, n4⟩, -, X4, ⟨Lc4, hQ4, l4, y4, z4⟩, st4⟩ := Jvm.LawKit.callS X3 hx (y := (⟨"java/lang/StringLatin1", "charAt", "([BI)C"⟩ : MethodName)) hown (mvT hZ (ww hw 67 rfl)) (mvT hZ (ww hw 68 rfl)) (mvT hZ (ww hw 69 rfl)) (mvT hZ (ww hw 70 rfl)) (by decide) (backOf (W := 0) (rmLch_3_0 l Z a0 hw [] zC vF hvF GS t kB c0.toInt8.toInt32 c1.toInt8.toInt32 c2.toInt8.toInt32 h0 n0 (by omega) O0 Vt) hZ (ww hw 70 rfl) (ww hw 69 rfl) (by decide) (by decide)) (g := (mkF m 12 #[.val (.ref x), .val (.int 0)] [.int 0, .ref t])) rfl (by rw [hml]; rfl) (argsL := [.ref t, .int 0]) (rest := []) (lenOf own_pd_9 rfl) rfl (by show 2 * 0 + _ ≤ _; exact Nat.le_of_eq rfl) (hb hby own_d13_12) (fun _ _ => ⟨rfl, e3, (by decide : 0 + 0 ≤ _), (by decide : 0 + 0 ≤ _)⟩)
 dsimp only [Pt.U, Pt.locs, Pt.cells, Pt.slots] at X4 l4 y4 z4 st4 hQ4
 subst l4 y4 z4
 obtain ⟨rfl, N4q, e4⟩ := hQ4
 have N5 := Fr.app N2 N4q
 refine own_by (T' := T4) (g' := (mkF m 15 #[.val (.ref x), .val (.int 0)] [(.int ((c0.toInt8.toInt32 &&& (255 : Int32)).toUInt32.toUInt16.toUInt32.toInt32))])) st4 ?_
 have hn6 : nar .char ((c0.toInt8.toInt32 &&& (255 : Int32)).toUInt32.toUInt16.toUInt32.toInt32) = ((c0.toInt8.toInt32 &&& (255 : Int32)).toUInt32.toUInt16.toUInt32.toInt32) := (own_narC _)
 have hr7 : ((c0.toInt8.toInt32 &&& (255 : Int32)).toUInt32.toUInt16.toUInt32.toInt32) = c0 := own_chr okc
 obtain ⟨fs8, hr8, hrun8, hended8, hW8, hsame8⟩ := X4.leave (v := some (.int (nar .char ((c0.toInt8.toInt32 &&& (255 : Int32)).toUInt32.toUInt16.toUInt32.toInt32)))) (fun h => by rw [Bd.returns] at h; cases h)
 refine ⟨_, _, retN X4 hx (t := .char) Bd.returns (by simp) (hb hby own_d13_15) hr8, hrun8, hended8, _, _, rfl, ?_, ⟨_, rfl⟩, hW8, hsame8.mono (by decide) (by decide)⟩
 show Q_rmChr_3_0 Z zC vF hvF x t kB c0 c1 c2 h0 n0 _ T4.heap _
 exact ⟨(congrArg (fun z => some (Value.int z)) (hn6.trans hr7)), N5, e4⟩
theorem own_ef_rmLch_3_1 (m : MethodId) (x0 : Addr) (x1 : Int32) : entryFrame m #[.ref x0, .int x1] 2 = mkF m 0 #[.val (.ref x0), .val (.int x1)] [] := by first | (simp [entryFrame, mkF, argsToLocals, Value.category]; done) | rfl
def Q_rmLch_3_1 (Z : State) (zC : Int32) (vF : Value) (hvF : vF.isRef = true) (t : Addr) (kB : ClassId) (b0 : Int32) (b1 : Int32) (b2 : Int32) (h0 : Heap) (n0 : Nat) (vv_ : Option Value) (hh_ : Heap) (LL_ : List Loc) : Prop := vv_ = some (.int ((b1 &&& (255 : Int32)).toUInt32.toUInt16.toUInt32.toInt32)) ∧ Fr n0 LL_ ∧ hh_ = h0
set_option maxRecDepth 65536 in
set_option maxHeartbeats 40000000 in
theorem rmLch_3_1 (l : Launch) (Z : State) (a0 : Array Value) (hw : ∀ d ∈ tables_1, d.before a0 Z = true) (ws : List Jvm.Cond) (zC : Int32) (vF : Value) (hvF : vF.isRef = true) (GS : Glob Z zC vF hvF) (t : Addr) (kB : ClassId) (b0 : Int32) (b1 : Int32) (b2 : Int32) (h0 : Heap) (n0 : Nat) (Z0 : n0 ≤ h0.size) (O0 : Old Z n0 h0) (Vt : Arv Z h0 t kB .byte (3 : Int32) [.int b0, .int b1, .int b2] (.int 0)) :
  MetFree l (⟨"java/lang/StringLatin1", "charAt", "([BI)C"⟩ : MethodName) (head1 (Jvm.Cond.code (⟨"java/lang/StringLatin1", "charAt", "([BI)C"⟩ : MethodName) jdk_43_method_2_code 2 (some .char) :: ws) (⟨2, 0, 0, 27⟩ : Room)) (fun aa_ UU_ => aa_ = #[.ref t, .int 1] ∧ Z.Warmed39 UU_.vm ∧ UU_.heap = h0) (fun _ _ _ _ _ => True) (fun _ UU_ oo_ UV_ => ∃ vv_ LL_, oo_ = .returned vv_ ∧ Q_rmLch_3_1 Z zC vF hvF t kB b0 b1 b2 h0 n0 vv_ UV_.heap LL_ ∧ FrameEnd UU_ oo_ UV_ LL_ (⟨2, 0, 0, 27⟩ : Room).cells (⟨2, 0, 0, 27⟩ : Room).slots) := by
 refine MetFree.of_bodySF (plainFor_of_name own_pn_java_lang_StringLatin1) hisR ?_
 intro p e s m args below meth c s₁ Bd hml0 hP hK
 obtain ⟨rfl, hZ, hh⟩ := hP
 have hx := Bd.exec
 have hby := Bd.bytes
 have hml : c.maxLocals = 2 := hml0
 have hown : s.vm.findClass "java/lang/StringLatin1" = some m.cls := findClass_of_methodNamed Bd.named
 have hnm := (name_of_methodNamed Bd.named Bd.method).1
 have X0 : Stand p l e (⟨2, 0, 0, 27⟩ : Room) s m #[.ref t, .int 1] below meth c s₁ [] 0 0 := Stand.of_body Bd
 have e0 : s₁.heap = h0 := by rw [← hh, Bd.state]; rfl
 have N0 := Fr.nil n0
 have hn0 : Z.heap.size = n0 := O0.1
 have KT0 : Keep h0 h0 [] := Keep.refl _ _
 refine own_enter (Φ := fun oo_ UV_ => ∃ vv_ LL_, oo_ = .returned vv_ ∧ Q_rmLch_3_1 Z zC vF hvF t kB b0 b1 b2 h0 n0 vv_ UV_.heap LL_ ∧ FrameEnd s oo_ UV_ LL_ (⟨2, 0, 0, 27⟩ : Room).cells (⟨2, 0, 0, 27⟩ : Room).slots) (own_ef_rmLch_3_1 m t (1 : Int32)) ?_
 refine own_by (T' := s₁) (g' := (mkF m 1 #[.val (.ref t), .val (.int 1)] [.int 1])) (fun _ kt_ => XS.iloadN X0.here hx rfl (hb hby own_d15_0) rfl kt_) ?_
 refine own_by (T' := s₁) (g' := (mkF m 2 #[.val (.ref t), .val (.int 1)] [.ref t, .int 1])) (fun _ kt_ => XS.aloadN X0.here hx rfl (hb hby own_d15_1) rfl rfl kt_) ?_
 obtain ⟨cl1, Ar1, q1, S1, M1, H1, G1⟩ := id Vt
 refine own_by (T' := s₁) (g' := (mkF m 3 #[.val (.ref t), .val (.int 1)] [.int 3, .int 1])) (fun _ kt_ => X0.arraylength hx (by rw [e0]; exact Ar1.1) (State.isArrayOf_alike hZ.alike Ar1.2.1) (g := (mkF m 2 #[.val (.ref t), .val (.int 1)] [.ref t, .int 1])) rfl rfl (hb hby own_d15_2) _ (by rw [len_of S1 M1]; exact kt_)) ?_
 obtain ⟨_, _, ⟨T2, L2, k2, n2⟩, -, X2, ⟨Lc2, hQ2, l2, y2, z2⟩, st2⟩ := Jvm.LawKit.callS X0 hx (y := (⟨"java/lang/String", "checkIndex", "(II)V"⟩ : MethodName)) hown (mvT hZ (ww hw 71 rfl)) (mvT hZ (ww hw 72 rfl)) (mvT hZ (ww hw 9 rfl)) (mvT hZ (ww hw 73 rfl)) (by decide) (backOf (W := 0) (rmCi l Z a0 hw [] zC vF hvF GS (1 : Int32) (3 : Int32) h0 n0 (by omega) O0 (by decide) (by decide)) hZ (ww hw 73 rfl) (ww hw 9 rfl) (by decide) (by decide)) (g := (mkF m 3 #[.val (.ref t), .val (.int 1)] [.int 3, .int 1])) rfl (by rw [hml]; rfl) (argsL := [.int 1, .int 3]) (rest := []) (lenOf own_pd_7 rfl) rfl (by show 2 * 0 + _ ≤ _; exact Nat.le_of_eq rfl) (hb hby own_d15_3) (fun _ _ => ⟨rfl, e0, (by decide : 0 + 0 ≤ _), (by decide : 0 + 0 ≤ _)⟩)
 dsimp only [Pt.U, Pt.locs, Pt.cells, Pt.slots] at X2 l2 y2 z2 st2 hQ2
 subst l2 y2 z2
 obtain ⟨rfl, N2q, e2⟩ := hQ2
 have N3 := Fr.app N0 N2q
 refine own_by (T' := T2) (g' := (mkF m 6 #[.val (.ref t), .val (.int 1)] [])) st2 ?_
 refine own_by (T' := T2) (g' := (mkF m 7 #[.val (.ref t), .val (.int 1)] [.ref t])) (fun _ kt_ => XS.aloadN X2.here hx rfl (hb hby own_d15_6) rfl rfl kt_) ?_
 refine own_by (T' := T2) (g' := (mkF m 8 #[.val (.ref t), .val (.int 1)] [.int 1, .ref t])) (fun _ kt_ => XS.iloadN X2.here hx rfl (hb hby own_d15_7) rfl kt_) ?_
 obtain ⟨cl4, Ar4, q4, S4, M4, H4, G4⟩ := id Vt
 have hin4 : ¬ ((1 : Int32) < 0 ∨ cl4.slots.size ≤ ((1 : Int32)).toNatClampNeg) := inb_of S4 ⟨by decide, by decide⟩
 have hat4 : cl4.slots[((1 : Int32)).toNatClampNeg]? = some (.int b1) := H4.at hin4 rfl
 refine own_by (T' := T2) (g' := (mkF m 9 #[.val (.ref t), .val (.int 1)] [.int b1])) (fun _ kt_ => X2.baloadBytes hx (j := (1 : Int32)) (v := (.int b1)) (by rw [e2]; exact Ar4.1) (State.isArrayOf_alike hZ.alike Ar4.2.1) Ar4.2.2 hin4 hat4 (g := (mkF m 8 #[.val (.ref t), .val (.int 1)] [.int 1, .ref t])) rfl rfl (hb hby own_d15_8) _ kt_) ?_
 refine own_by (T' := T2) (g' := (mkF m 12 #[.val (.ref t), .val (.int 1)] [.int 255, .int b1])) (fun _ kt_ => XS.sipush X2.here hx rfl (hb hby own_d15_9) kt_) ?_
 refine own_by (T' := T2) (g' := (mkF m 13 #[.val (.ref t), .val (.int 1)] [(.int (b1 &&& (255 : Int32)))])) (fun _ kt_ => XS.iand X2.here hx rfl (hb hby own_d15_12) rfl kt_) ?_
 refine own_by (T' := T2) (g' := (mkF m 14 #[.val (.ref t), .val (.int 1)] [(.int (b1 &&& (255 : Int32)).toUInt32.toUInt16.toUInt32.toInt32)])) (fun _ kt_ => XS.i2c X2.here hx rfl (hb hby own_d15_13) rfl kt_) ?_
 have hn5 : nar .char ((b1 &&& (255 : Int32)).toUInt32.toUInt16.toUInt32.toInt32) = (b1 &&& (255 : Int32)).toUInt32.toUInt16.toUInt32.toInt32 := (own_narC _)
 have hr6 : (b1 &&& (255 : Int32)).toUInt32.toUInt16.toUInt32.toInt32 = ((b1 &&& (255 : Int32)).toUInt32.toUInt16.toUInt32.toInt32) := by simp []
 obtain ⟨fs7, hr7, hrun7, hended7, hW7, hsame7⟩ := X2.leave (v := some (.int (nar .char ((b1 &&& (255 : Int32)).toUInt32.toUInt16.toUInt32.toInt32)))) (fun h => by rw [Bd.returns] at h; cases h)
 refine ⟨_, _, retN X2 hx (t := .char) Bd.returns (by simp) (hb hby own_d15_14) hr7, hrun7, hended7, _, _, rfl, ?_, ⟨_, rfl⟩, hW7, hsame7.mono (by decide) (by decide)⟩
 show Q_rmLch_3_1 Z zC vF hvF t kB b0 b1 b2 h0 n0 _ T2.heap _
 exact ⟨(congrArg (fun z => some (Value.int z)) (hn5.trans hr6)), N3, e2⟩
theorem own_ef_rmChr_3_1 (m : MethodId) (x0 : Addr) (x1 : Int32) : entryFrame m #[.ref x0, .int x1] 2 = mkF m 0 #[.val (.ref x0), .val (.int x1)] [] := by first | (simp [entryFrame, mkF, argsToLocals, Value.category]; done) | rfl
def Q_rmChr_3_1 (Z : State) (zC : Int32) (vF : Value) (hvF : vF.isRef = true) (x : Addr) (t : Addr) (kB : ClassId) (c0 : Int32) (c1 : Int32) (c2 : Int32) (h0 : Heap) (n0 : Nat) (vv_ : Option Value) (hh_ : Heap) (LL_ : List Loc) : Prop := vv_ = some (.int c1) ∧ Fr n0 LL_ ∧ hh_ = h0
set_option maxRecDepth 65536 in
set_option maxHeartbeats 40000000 in
theorem rmChr_3_1 (l : Launch) (Z : State) (a0 : Array Value) (hw : ∀ d ∈ tables_1, d.before a0 Z = true) (ws : List Jvm.Cond) (zC : Int32) (vF : Value) (hvF : vF.isRef = true) (GS : Glob Z zC vF hvF) (x : Addr) (t : Addr) (kB : ClassId) (c0 : Int32) (c1 : Int32) (c2 : Int32) (h0 : Heap) (n0 : Nat) (Z0 : n0 ≤ h0.size) (O0 : Old Z n0 h0) (E_x : Exa Z h0 x "java/lang/String") (Fv : Fld Z h0 x "java/lang/String" "value" "[B" (.ref t)) (Fc : Fld Z h0 x "java/lang/String" "coder" "B" (.int 0)) (Vt : Arv Z h0 t kB .byte (3 : Int32) [(.int c0.toInt8.toInt32), (.int c1.toInt8.toInt32), (.int c2.toInt8.toInt32)] (.int 0)) (okc : okF c1) :
  MetFree l (⟨"java/lang/String", "charAt", "(I)C"⟩ : MethodName) (head1 (Jvm.Cond.code (⟨"java/lang/String", "charAt", "(I)C"⟩ : MethodName) jdk_42_method_56_code 2 (some .char) :: ws) (⟨3, 0, 0, 40⟩ : Room)) (fun aa_ UU_ => aa_ = #[.ref x, .int 1] ∧ Z.Warmed39 UU_.vm ∧ UU_.heap = h0) (fun _ _ _ _ _ => True) (fun _ UU_ oo_ UV_ => ∃ vv_ LL_, oo_ = .returned vv_ ∧ Q_rmChr_3_1 Z zC vF hvF x t kB c0 c1 c2 h0 n0 vv_ UV_.heap LL_ ∧ FrameEnd UU_ oo_ UV_ LL_ (⟨3, 0, 0, 40⟩ : Room).cells (⟨3, 0, 0, 40⟩ : Room).slots) := by
 refine MetFree.of_bodySF (plainFor_of_name own_pn_java_lang_String) hisR ?_
 intro p e s m args below meth c s₁ Bd hml0 hP hK
 obtain ⟨rfl, hZ, hh⟩ := hP
 have hx := Bd.exec
 have hby := Bd.bytes
 have hml : c.maxLocals = 2 := hml0
 have hown : s.vm.findClass "java/lang/String" = some m.cls := findClass_of_methodNamed Bd.named
 have hnm := (name_of_methodNamed Bd.named Bd.method).1
 have X0 : Stand p l e (⟨3, 0, 0, 40⟩ : Room) s m #[.ref x, .int 1] below meth c s₁ [] 0 0 := Stand.of_body Bd
 have e0 : s₁.heap = h0 := by rw [← hh, Bd.state]; rfl
 have N0 := Fr.nil n0
 have hn0 : Z.heap.size = n0 := O0.1
 have KT0 : Keep h0 h0 [] := Keep.refl _ _
 refine own_enter (Φ := fun oo_ UV_ => ∃ vv_ LL_, oo_ = .returned vv_ ∧ Q_rmChr_3_1 Z zC vF hvF x t kB c0 c1 c2 h0 n0 vv_ UV_.heap LL_ ∧ FrameEnd s oo_ UV_ LL_ (⟨3, 0, 0, 40⟩ : Room).cells (⟨3, 0, 0, 40⟩ : Room).slots) (own_ef_rmChr_3_1 m x (1 : Int32)) ?_
 refine own_by (T' := s₁) (g' := (mkF m 1 #[.val (.ref x), .val (.int 1)] [.ref x])) (fun _ kt_ => XS.aloadN X0.here hx rfl (hb hby own_d13_0) rfl rfl kt_) ?_
 obtain ⟨cq1, kq1, q1a, q1b, q1c⟩ := isOf hZ e0 E_x
 obtain ⟨_, _, ⟨T1, L1, k1, n1⟩, -, X1, ⟨Lc1, hQ1, l1, y1, z1⟩, st1⟩ := X0.virtualBack hx (y := (⟨"java/lang/String", "isLatin1", "()Z"⟩ : MethodName)) (z := (⟨"java/lang/String", "isLatin1", "()Z"⟩ : MethodName)) hown (mvT hZ (ww hw 62 rfl)) (mvT hZ (ww hw 63 rfl)) (notFace_of_selects (args := #[]) (mvT hZ (ww hw 65 rfl))) (mvT hZ (ww hw 65 rfl)) (mvT hZ (ww hw 64 rfl)) (by decide) (backOf (W := 0) (rmLat l Z a0 hw [] zC vF hvF GS x h0 n0 (by omega) O0 Fc) hZ (ww hw 66 rfl) (ww hw 9 rfl) (by decide) (by decide)) q1a q1c (g := (mkF m 1 #[.val (.ref x), .val (.int 1)] [.ref x])) rfl (by rw [hml]; rfl) (Steps.refl _) (argsL := []) (rest := []) (lenOf own_pd_8 rfl) rfl (by show 2 * 0 + _ ≤ _; exact Nat.le_of_eq rfl) (hb hby own_d13_1) (fun _ _ => ⟨rfl, e0, (by decide : 0 + 0 ≤ _), (by decide : 0 + 0 ≤ _)⟩)
 dsimp only [Pt.U, Pt.locs, Pt.cells, Pt.slots] at X1 l1 y1 z1 st1 hQ1
 subst l1 y1 z1
 obtain ⟨rfl, N1q, e1⟩ := hQ1
 have N2 := Fr.app N0 N1q
 refine own_by (T' := T1) (g' := (mkF m 4 #[.val (.ref x), .val (.int 1)] [.int 1])) (fun _ kt_ => st1.trans kt_) ?_
 refine own_by (T' := T1) (g' := (mkF m 7 #[.val (.ref x), .val (.int 1)] [])) (fun _ kt_ => XS.ifNo X1.here hx rfl (hb hby own_d13_4) rfl (XT.i0_eq_f (by decide)) kt_) ?_
 refine own_by (T' := T1) (g' := (mkF m 8 #[.val (.ref x), .val (.int 1)] [.ref x])) (fun _ kt_ => XS.aloadN X1.here hx rfl (hb hby own_d13_7) rfl rfl kt_) ?_
 obtain ⟨T3, X3, e3, st3⟩ := getF X1 hx hZ hown (host := "") (Or.inl (ww hw 27 rfl)) Via.refl e1 Fv (g := (mkF m 8 #[.val (.ref x), .val (.int 1)] [.ref x])) rfl rfl (hb hby own_d13_8)
 refine own_by (T' := T3) (g' := (mkF m 11 #[.val (.ref x), .val (.int 1)] [.ref t])) st3 ?_
 refine own_by (T' := T3) (g' := (mkF m 12 #[.val (.ref x), .val (.int 1)] [.int 1, .ref t])) (fun _ kt_ => XS.iloadN X3.here hx rfl (hb hby own_d13_11) rfl kt_) ?_
 obtain ⟨_, _, ⟨T4, L4, k4, n4⟩, -, X4, ⟨Lc4, hQ4, l4, y4, z4⟩, st4⟩ := Jvm.LawKit.callS X3 hx (y := (⟨"java/lang/StringLatin1", "charAt", "([BI)C"⟩ : MethodName)) hown (mvT hZ (ww hw 67 rfl)) (mvT hZ (ww hw 68 rfl)) (mvT hZ (ww hw 69 rfl)) (mvT hZ (ww hw 70 rfl)) (by decide) (backOf (W := 0) (rmLch_3_1 l Z a0 hw [] zC vF hvF GS t kB c0.toInt8.toInt32 c1.toInt8.toInt32 c2.toInt8.toInt32 h0 n0 (by omega) O0 Vt) hZ (ww hw 70 rfl) (ww hw 69 rfl) (by decide) (by decide)) (g := (mkF m 12 #[.val (.ref x), .val (.int 1)] [.int 1, .ref t])) rfl (by rw [hml]; rfl) (argsL := [.ref t, .int 1]) (rest := []) (lenOf own_pd_9 rfl) rfl (by show 2 * 0 + _ ≤ _; exact Nat.le_of_eq rfl) (hb hby own_d13_12) (fun _ _ => ⟨rfl, e3, (by decide : 0 + 0 ≤ _), (by decide : 0 + 0 ≤ _)⟩)
 dsimp only [Pt.U, Pt.locs, Pt.cells, Pt.slots] at X4 l4 y4 z4 st4 hQ4
 subst l4 y4 z4
 obtain ⟨rfl, N4q, e4⟩ := hQ4
 have N5 := Fr.app N2 N4q
 refine own_by (T' := T4) (g' := (mkF m 15 #[.val (.ref x), .val (.int 1)] [(.int ((c1.toInt8.toInt32 &&& (255 : Int32)).toUInt32.toUInt16.toUInt32.toInt32))])) st4 ?_
 have hn6 : nar .char ((c1.toInt8.toInt32 &&& (255 : Int32)).toUInt32.toUInt16.toUInt32.toInt32) = ((c1.toInt8.toInt32 &&& (255 : Int32)).toUInt32.toUInt16.toUInt32.toInt32) := (own_narC _)
 have hr7 : ((c1.toInt8.toInt32 &&& (255 : Int32)).toUInt32.toUInt16.toUInt32.toInt32) = c1 := own_chr okc
 obtain ⟨fs8, hr8, hrun8, hended8, hW8, hsame8⟩ := X4.leave (v := some (.int (nar .char ((c1.toInt8.toInt32 &&& (255 : Int32)).toUInt32.toUInt16.toUInt32.toInt32)))) (fun h => by rw [Bd.returns] at h; cases h)
 refine ⟨_, _, retN X4 hx (t := .char) Bd.returns (by simp) (hb hby own_d13_15) hr8, hrun8, hended8, _, _, rfl, ?_, ⟨_, rfl⟩, hW8, hsame8.mono (by decide) (by decide)⟩
 show Q_rmChr_3_1 Z zC vF hvF x t kB c0 c1 c2 h0 n0 _ T4.heap _
 exact ⟨(congrArg (fun z => some (Value.int z)) (hn6.trans hr7)), N5, e4⟩
theorem own_ef_rmLch_3_2 (m : MethodId) (x0 : Addr) (x1 : Int32) : entryFrame m #[.ref x0, .int x1] 2 = mkF m 0 #[.val (.ref x0), .val (.int x1)] [] := by first | (simp [entryFrame, mkF, argsToLocals, Value.category]; done) | rfl
def Q_rmLch_3_2 (Z : State) (zC : Int32) (vF : Value) (hvF : vF.isRef = true) (t : Addr) (kB : ClassId) (b0 : Int32) (b1 : Int32) (b2 : Int32) (h0 : Heap) (n0 : Nat) (vv_ : Option Value) (hh_ : Heap) (LL_ : List Loc) : Prop := vv_ = some (.int ((b2 &&& (255 : Int32)).toUInt32.toUInt16.toUInt32.toInt32)) ∧ Fr n0 LL_ ∧ hh_ = h0
set_option maxRecDepth 65536 in
set_option maxHeartbeats 40000000 in
theorem rmLch_3_2 (l : Launch) (Z : State) (a0 : Array Value) (hw : ∀ d ∈ tables_1, d.before a0 Z = true) (ws : List Jvm.Cond) (zC : Int32) (vF : Value) (hvF : vF.isRef = true) (GS : Glob Z zC vF hvF) (t : Addr) (kB : ClassId) (b0 : Int32) (b1 : Int32) (b2 : Int32) (h0 : Heap) (n0 : Nat) (Z0 : n0 ≤ h0.size) (O0 : Old Z n0 h0) (Vt : Arv Z h0 t kB .byte (3 : Int32) [.int b0, .int b1, .int b2] (.int 0)) :
  MetFree l (⟨"java/lang/StringLatin1", "charAt", "([BI)C"⟩ : MethodName) (head1 (Jvm.Cond.code (⟨"java/lang/StringLatin1", "charAt", "([BI)C"⟩ : MethodName) jdk_43_method_2_code 2 (some .char) :: ws) (⟨2, 0, 0, 27⟩ : Room)) (fun aa_ UU_ => aa_ = #[.ref t, .int 2] ∧ Z.Warmed39 UU_.vm ∧ UU_.heap = h0) (fun _ _ _ _ _ => True) (fun _ UU_ oo_ UV_ => ∃ vv_ LL_, oo_ = .returned vv_ ∧ Q_rmLch_3_2 Z zC vF hvF t kB b0 b1 b2 h0 n0 vv_ UV_.heap LL_ ∧ FrameEnd UU_ oo_ UV_ LL_ (⟨2, 0, 0, 27⟩ : Room).cells (⟨2, 0, 0, 27⟩ : Room).slots) := by
 refine MetFree.of_bodySF (plainFor_of_name own_pn_java_lang_StringLatin1) hisR ?_
 intro p e s m args below meth c s₁ Bd hml0 hP hK
 obtain ⟨rfl, hZ, hh⟩ := hP
 have hx := Bd.exec
 have hby := Bd.bytes
 have hml : c.maxLocals = 2 := hml0
 have hown : s.vm.findClass "java/lang/StringLatin1" = some m.cls := findClass_of_methodNamed Bd.named
 have hnm := (name_of_methodNamed Bd.named Bd.method).1
 have X0 : Stand p l e (⟨2, 0, 0, 27⟩ : Room) s m #[.ref t, .int 2] below meth c s₁ [] 0 0 := Stand.of_body Bd
 have e0 : s₁.heap = h0 := by rw [← hh, Bd.state]; rfl
 have N0 := Fr.nil n0
 have hn0 : Z.heap.size = n0 := O0.1
 have KT0 : Keep h0 h0 [] := Keep.refl _ _
 refine own_enter (Φ := fun oo_ UV_ => ∃ vv_ LL_, oo_ = .returned vv_ ∧ Q_rmLch_3_2 Z zC vF hvF t kB b0 b1 b2 h0 n0 vv_ UV_.heap LL_ ∧ FrameEnd s oo_ UV_ LL_ (⟨2, 0, 0, 27⟩ : Room).cells (⟨2, 0, 0, 27⟩ : Room).slots) (own_ef_rmLch_3_2 m t (2 : Int32)) ?_
 refine own_by (T' := s₁) (g' := (mkF m 1 #[.val (.ref t), .val (.int 2)] [.int 2])) (fun _ kt_ => XS.iloadN X0.here hx rfl (hb hby own_d15_0) rfl kt_) ?_
 refine own_by (T' := s₁) (g' := (mkF m 2 #[.val (.ref t), .val (.int 2)] [.ref t, .int 2])) (fun _ kt_ => XS.aloadN X0.here hx rfl (hb hby own_d15_1) rfl rfl kt_) ?_
 obtain ⟨cl1, Ar1, q1, S1, M1, H1, G1⟩ := id Vt
 refine own_by (T' := s₁) (g' := (mkF m 3 #[.val (.ref t), .val (.int 2)] [.int 3, .int 2])) (fun _ kt_ => X0.arraylength hx (by rw [e0]; exact Ar1.1) (State.isArrayOf_alike hZ.alike Ar1.2.1) (g := (mkF m 2 #[.val (.ref t), .val (.int 2)] [.ref t, .int 2])) rfl rfl (hb hby own_d15_2) _ (by rw [len_of S1 M1]; exact kt_)) ?_
 obtain ⟨_, _, ⟨T2, L2, k2, n2⟩, -, X2, ⟨Lc2, hQ2, l2, y2, z2⟩, st2⟩ := Jvm.LawKit.callS X0 hx (y := (⟨"java/lang/String", "checkIndex", "(II)V"⟩ : MethodName)) hown (mvT hZ (ww hw 71 rfl)) (mvT hZ (ww hw 72 rfl)) (mvT hZ (ww hw 9 rfl)) (mvT hZ (ww hw 73 rfl)) (by decide) (backOf (W := 0) (rmCi l Z a0 hw [] zC vF hvF GS (2 : Int32) (3 : Int32) h0 n0 (by omega) O0 (by decide) (by decide)) hZ (ww hw 73 rfl) (ww hw 9 rfl) (by decide) (by decide)) (g := (mkF m 3 #[.val (.ref t), .val (.int 2)] [.int 3, .int 2])) rfl (by rw [hml]; rfl) (argsL := [.int 2, .int 3]) (rest := []) (lenOf own_pd_7 rfl) rfl (by show 2 * 0 + _ ≤ _; exact Nat.le_of_eq rfl) (hb hby own_d15_3) (fun _ _ => ⟨rfl, e0, (by decide : 0 + 0 ≤ _), (by decide : 0 + 0 ≤ _)⟩)
 dsimp only [Pt.U, Pt.locs, Pt.cells, Pt.slots] at X2 l2 y2 z2 st2 hQ2
 subst l2 y2 z2
 obtain ⟨rfl, N2q, e2⟩ := hQ2
 have N3 := Fr.app N0 N2q
 refine own_by (T' := T2) (g' := (mkF m 6 #[.val (.ref t), .val (.int 2)] [])) st2 ?_
 refine own_by (T' := T2) (g' := (mkF m 7 #[.val (.ref t), .val (.int 2)] [.ref t])) (fun _ kt_ => XS.aloadN X2.here hx rfl (hb hby own_d15_6) rfl rfl kt_) ?_
 refine own_by (T' := T2) (g' := (mkF m 8 #[.val (.ref t), .val (.int 2)] [.int 2, .ref t])) (fun _ kt_ => XS.iloadN X2.here hx rfl (hb hby own_d15_7) rfl kt_) ?_
 obtain ⟨cl4, Ar4, q4, S4, M4, H4, G4⟩ := id Vt
 have hin4 : ¬ ((2 : Int32) < 0 ∨ cl4.slots.size ≤ ((2 : Int32)).toNatClampNeg) := inb_of S4 ⟨by decide, by decide⟩
 have hat4 : cl4.slots[((2 : Int32)).toNatClampNeg]? = some (.int b2) := H4.at hin4 rfl
 refine own_by (T' := T2) (g' := (mkF m 9 #[.val (.ref t), .val (.int 2)] [.int b2])) (fun _ kt_ => X2.baloadBytes hx (j := (2 : Int32)) (v := (.int b2)) (by rw [e2]; exact Ar4.1) (State.isArrayOf_alike hZ.alike Ar4.2.1) Ar4.2.2 hin4 hat4 (g := (mkF m 8 #[.val (.ref t), .val (.int 2)] [.int 2, .ref t])) rfl rfl (hb hby own_d15_8) _ kt_) ?_
 refine own_by (T' := T2) (g' := (mkF m 12 #[.val (.ref t), .val (.int 2)] [.int 255, .int b2])) (fun _ kt_ => XS.sipush X2.here hx rfl (hb hby own_d15_9) kt_) ?_
 refine own_by (T' := T2) (g' := (mkF m 13 #[.val (.ref t), .val (.int 2)] [(.int (b2 &&& (255 : Int32)))])) (fun _ kt_ => XS.iand X2.here hx rfl (hb hby own_d15_12) rfl kt_) ?_
 refine own_by (T' := T2) (g' := (mkF m 14 #[.val (.ref t), .val (.int 2)] [(.int (b2 &&& (255 : Int32)).toUInt32.toUInt16.toUInt32.toInt32)])) (fun _ kt_ => XS.i2c X2.here hx rfl (hb hby own_d15_13) rfl kt_) ?_
 have hn5 : nar .char ((b2 &&& (255 : Int32)).toUInt32.toUInt16.toUInt32.toInt32) = (b2 &&& (255 : Int32)).toUInt32.toUInt16.toUInt32.toInt32 := (own_narC _)
 have hr6 : (b2 &&& (255 : Int32)).toUInt32.toUInt16.toUInt32.toInt32 = ((b2 &&& (255 : Int32)).toUInt32.toUInt16.toUInt32.toInt32) := by simp []
 obtain ⟨fs7, hr7, hrun7, hended7, hW7, hsame7⟩ := X2.leave (v := some (.int (nar .char ((b2 &&& (255 : Int32)).toUInt32.toUInt16.toUInt32.toInt32)))) (fun h => by rw [Bd.returns] at h; cases h)
 refine ⟨_, _, retN X2 hx (t := .char) Bd.returns (by simp) (hb hby own_d15_14) hr7, hrun7, hended7, _, _, rfl, ?_, ⟨_, rfl⟩, hW7, hsame7.mono (by decide) (by decide)⟩
 show Q_rmLch_3_2 Z zC vF hvF t kB b0 b1 b2 h0 n0 _ T2.heap _
 exact ⟨(congrArg (fun z => some (Value.int z)) (hn5.trans hr6)), N3, e2⟩
theorem own_ef_rmChr_3_2 (m : MethodId) (x0 : Addr) (x1 : Int32) : entryFrame m #[.ref x0, .int x1] 2 = mkF m 0 #[.val (.ref x0), .val (.int x1)] [] := by first | (simp [entryFrame, mkF, argsToLocals, Value.category]; done) | rfl
def Q_rmChr_3_2 (Z : State) (zC : Int32) (vF : Value) (hvF : vF.isRef = true) (x : Addr) (t : Addr) (kB : ClassId) (c0 : Int32) (c1 : Int32) (c2 : Int32) (h0 : Heap) (n0 : Nat) (vv_ : Option Value) (hh_ : Heap) (LL_ : List Loc) : Prop := vv_ = some (.int c2) ∧ Fr n0 LL_ ∧ hh_ = h0
set_option maxRecDepth 65536 in
set_option maxHeartbeats 40000000 in
theorem rmChr_3_2 (l : Launch) (Z : State) (a0 : Array Value) (hw : ∀ d ∈ tables_1, d.before a0 Z = true) (ws : List Jvm.Cond) (zC : Int32) (vF : Value) (hvF : vF.isRef = true) (GS : Glob Z zC vF hvF) (x : Addr) (t : Addr) (kB : ClassId) (c0 : Int32) (c1 : Int32) (c2 : Int32) (h0 : Heap) (n0 : Nat) (Z0 : n0 ≤ h0.size) (O0 : Old Z n0 h0) (E_x : Exa Z h0 x "java/lang/String") (Fv : Fld Z h0 x "java/lang/String" "value" "[B" (.ref t)) (Fc : Fld Z h0 x "java/lang/String" "coder" "B" (.int 0)) (Vt : Arv Z h0 t kB .byte (3 : Int32) [(.int c0.toInt8.toInt32), (.int c1.toInt8.toInt32), (.int c2.toInt8.toInt32)] (.int 0)) (okc : okF c2) :
  MetFree l (⟨"java/lang/String", "charAt", "(I)C"⟩ : MethodName) (head1 (Jvm.Cond.code (⟨"java/lang/String", "charAt", "(I)C"⟩ : MethodName) jdk_42_method_56_code 2 (some .char) :: ws) (⟨3, 0, 0, 40⟩ : Room)) (fun aa_ UU_ => aa_ = #[.ref x, .int 2] ∧ Z.Warmed39 UU_.vm ∧ UU_.heap = h0) (fun _ _ _ _ _ => True) (fun _ UU_ oo_ UV_ => ∃ vv_ LL_, oo_ = .returned vv_ ∧ Q_rmChr_3_2 Z zC vF hvF x t kB c0 c1 c2 h0 n0 vv_ UV_.heap LL_ ∧ FrameEnd UU_ oo_ UV_ LL_ (⟨3, 0, 0, 40⟩ : Room).cells (⟨3, 0, 0, 40⟩ : Room).slots) := by
 refine MetFree.of_bodySF (plainFor_of_name own_pn_java_lang_String) hisR ?_
 intro p e s m args below meth c s₁ Bd hml0 hP hK
 obtain ⟨rfl, hZ, hh⟩ := hP
 have hx := Bd.exec
 have hby := Bd.bytes
 have hml : c.maxLocals = 2 := hml0
 have hown : s.vm.findClass "java/lang/String" = some m.cls := findClass_of_methodNamed Bd.named
 have hnm := (name_of_methodNamed Bd.named Bd.method).1
 have X0 : Stand p l e (⟨3, 0, 0, 40⟩ : Room) s m #[.ref x, .int 2] below meth c s₁ [] 0 0 := Stand.of_body Bd
 have e0 : s₁.heap = h0 := by rw [← hh, Bd.state]; rfl
 have N0 := Fr.nil n0
 have hn0 : Z.heap.size = n0 := O0.1
 have KT0 : Keep h0 h0 [] := Keep.refl _ _
 refine own_enter (Φ := fun oo_ UV_ => ∃ vv_ LL_, oo_ = .returned vv_ ∧ Q_rmChr_3_2 Z zC vF hvF x t kB c0 c1 c2 h0 n0 vv_ UV_.heap LL_ ∧ FrameEnd s oo_ UV_ LL_ (⟨3, 0, 0, 40⟩ : Room).cells (⟨3, 0, 0, 40⟩ : Room).slots) (own_ef_rmChr_3_2 m x (2 : Int32)) ?_
 refine own_by (T' := s₁) (g' := (mkF m 1 #[.val (.ref x), .val (.int 2)] [.ref x])) (fun _ kt_ => XS.aloadN X0.here hx rfl (hb hby own_d13_0) rfl rfl kt_) ?_
 obtain ⟨cq1, kq1, q1a, q1b, q1c⟩ := isOf hZ e0 E_x
 obtain ⟨_, _, ⟨T1, L1, k1, n1⟩, -, X1, ⟨Lc1, hQ1, l1, y1, z1⟩, st1⟩ := X0.virtualBack hx (y := (⟨"java/lang/String", "isLatin1", "()Z"⟩ : MethodName)) (z := (⟨"java/lang/String", "isLatin1", "()Z"⟩ : MethodName)) hown (mvT hZ (ww hw 62 rfl)) (mvT hZ (ww hw 63 rfl)) (notFace_of_selects (args := #[]) (mvT hZ (ww hw 65 rfl))) (mvT hZ (ww hw 65 rfl)) (mvT hZ (ww hw 64 rfl)) (by decide) (backOf (W := 0) (rmLat l Z a0 hw [] zC vF hvF GS x h0 n0 (by omega) O0 Fc) hZ (ww hw 66 rfl) (ww hw 9 rfl) (by decide) (by decide)) q1a q1c (g := (mkF m 1 #[.val (.ref x), .val (.int 2)] [.ref x])) rfl (by rw [hml]; rfl) (Steps.refl _) (argsL := []) (rest := []) (lenOf own_pd_8 rfl) rfl (by show 2 * 0 + _ ≤ _; exact Nat.le_of_eq rfl) (hb hby own_d13_1) (fun _ _ => ⟨rfl, e0, (by decide : 0 + 0 ≤ _), (by decide : 0 + 0 ≤ _)⟩)
 dsimp only [Pt.U, Pt.locs, Pt.cells, Pt.slots] at X1 l1 y1 z1 st1 hQ1
 subst l1 y1 z1
 obtain ⟨rfl, N1q, e1⟩ := hQ1
 have N2 := Fr.app N0 N1q
 refine own_by (T' := T1) (g' := (mkF m 4 #[.val (.ref x), .val (.int 2)] [.int 1])) (fun _ kt_ => st1.trans kt_) ?_
 refine own_by (T' := T1) (g' := (mkF m 7 #[.val (.ref x), .val (.int 2)] [])) (fun _ kt_ => XS.ifNo X1.here hx rfl (hb hby own_d13_4) rfl (XT.i0_eq_f (by decide)) kt_) ?_
 refine own_by (T' := T1) (g' := (mkF m 8 #[.val (.ref x), .val (.int 2)] [.ref x])) (fun _ kt_ => XS.aloadN X1.here hx rfl (hb hby own_d13_7) rfl rfl kt_) ?_
 obtain ⟨T3, X3, e3, st3⟩ := getF X1 hx hZ hown (host := "") (Or.inl (ww hw 27 rfl)) Via.refl e1 Fv (g := (mkF m 8 #[.val (.ref x), .val (.int 2)] [.ref x])) rfl rfl (hb hby own_d13_8)
 refine own_by (T' := T3) (g' := (mkF m 11 #[.val (.ref x), .val (.int 2)] [.ref t])) st3 ?_
 refine own_by (T' := T3) (g' := (mkF m 12 #[.val (.ref x), .val (.int 2)] [.int 2, .ref t])) (fun _ kt_ => XS.iloadN X3.here hx rfl (hb hby own_d13_11) rfl kt_) ?_
 obtain ⟨_, _, ⟨T4, L4, k4, n4⟩, -, X4, ⟨Lc4, hQ4, l4, y4, z4⟩, st4⟩ := Jvm.LawKit.callS X3 hx (y := (⟨"java/lang/StringLatin1", "charAt", "([BI)C"⟩ : MethodName)) hown (mvT hZ (ww hw 67 rfl)) (mvT hZ (ww hw 68 rfl)) (mvT hZ (ww hw 69 rfl)) (mvT hZ (ww hw 70 rfl)) (by decide) (backOf (W := 0) (rmLch_3_2 l Z a0 hw [] zC vF hvF GS t kB c0.toInt8.toInt32 c1.toInt8.toInt32 c2.toInt8.toInt32 h0 n0 (by omega) O0 Vt) hZ (ww hw 70 rfl) (ww hw 69 rfl) (by decide) (by decide)) (g := (mkF m 12 #[.val (.ref x), .val (.int 2)] [.int 2, .ref t])) rfl (by rw [hml]; rfl) (argsL := [.ref t, .int 2]) (rest := []) (lenOf own_pd_9 rfl) rfl (by show 2 * 0 + _ ≤ _; exact Nat.le_of_eq rfl) (hb hby own_d13_12) (fun _ _ => ⟨rfl, e3, (by decide : 0 + 0 ≤ _), (by decide : 0 + 0 ≤ _)⟩)
 dsimp only [Pt.U, Pt.locs, Pt.cells, Pt.slots] at X4 l4 y4 z4 st4 hQ4
 subst l4 y4 z4
 obtain ⟨rfl, N4q, e4⟩ := hQ4
 have N5 := Fr.app N2 N4q
 refine own_by (T' := T4) (g' := (mkF m 15 #[.val (.ref x), .val (.int 2)] [(.int ((c2.toInt8.toInt32 &&& (255 : Int32)).toUInt32.toUInt16.toUInt32.toInt32))])) st4 ?_
 have hn6 : nar .char ((c2.toInt8.toInt32 &&& (255 : Int32)).toUInt32.toUInt16.toUInt32.toInt32) = ((c2.toInt8.toInt32 &&& (255 : Int32)).toUInt32.toUInt16.toUInt32.toInt32) := (own_narC _)
 have hr7 : ((c2.toInt8.toInt32 &&& (255 : Int32)).toUInt32.toUInt16.toUInt32.toInt32) = c2 := own_chr okc
 obtain ⟨fs8, hr8, hrun8, hended8, hW8, hsame8⟩ := X4.leave (v := some (.int (nar .char ((c2.toInt8.toInt32 &&& (255 : Int32)).toUInt32.toUInt16.toUInt32.toInt32)))) (fun h => by rw [Bd.returns] at h; cases h)
 refine ⟨_, _, retN X4 hx (t := .char) Bd.returns (by simp) (hb hby own_d13_15) hr8, hrun8, hended8, _, _, rfl, ?_, ⟨_, rfl⟩, hW8, hsame8.mono (by decide) (by decide)⟩
 show Q_rmChr_3_2 Z zC vF hvF x t kB c0 c1 c2 h0 n0 _ T4.heap _
 exact ⟨(congrArg (fun z => some (Value.int z)) (hn6.trans hr7)), N5, e4⟩
theorem own_ef_rmLen_4 (m : MethodId) (x0 : Addr) : entryFrame m #[.ref x0] 1 = mkF m 0 #[.val (.ref x0)] [] := by first | (simp [entryFrame, mkF, argsToLocals, Value.category]; done) | rfl
def Q_rmLen_4 (Z : State) (zC : Int32) (vF : Value) (hvF : vF.isRef = true) (x : Addr) (t : Addr) (kB : ClassId) (c0 : Int32) (c1 : Int32) (c2 : Int32) (c3 : Int32) (h0 : Heap) (n0 : Nat) (vv_ : Option Value) (hh_ : Heap) (LL_ : List Loc) : Prop := vv_ = some (.int 4) ∧ Fr n0 LL_ ∧ hh_ = h0
set_option maxRecDepth 65536 in
set_option maxHeartbeats 40000000 in
theorem rmLen_4 (l : Launch) (Z : State) (a0 : Array Value) (hw : ∀ d ∈ tables_1, d.before a0 Z = true) (ws : List Jvm.Cond) (zC : Int32) (vF : Value) (hvF : vF.isRef = true) (GS : Glob Z zC vF hvF) (x : Addr) (t : Addr) (kB : ClassId) (c0 : Int32) (c1 : Int32) (c2 : Int32) (c3 : Int32) (h0 : Heap) (n0 : Nat) (Z0 : n0 ≤ h0.size) (O0 : Old Z n0 h0) (E_x : Exa Z h0 x "java/lang/String") (Fv : Fld Z h0 x "java/lang/String" "value" "[B" (.ref t)) (Fc : Fld Z h0 x "java/lang/String" "coder" "B" (.int 0)) (Vt : Arv Z h0 t kB .byte (4 : Int32) [(.int c0.toInt8.toInt32), (.int c1.toInt8.toInt32), (.int c2.toInt8.toInt32), (.int c3.toInt8.toInt32)] (.int 0)) :
  MetFree l (⟨"java/lang/String", "length", "()I"⟩ : MethodName) (head1 (Jvm.Cond.code (⟨"java/lang/String", "length", "()I"⟩ : MethodName) jdk_42_method_54_code 1 (some .int) :: ws) (⟨1, 0, 0, 13⟩ : Room)) (fun aa_ UU_ => aa_ = #[.ref x] ∧ Z.Warmed39 UU_.vm ∧ UU_.heap = h0) (fun _ _ _ _ _ => True) (fun _ UU_ oo_ UV_ => ∃ vv_ LL_, oo_ = .returned vv_ ∧ Q_rmLen_4 Z zC vF hvF x t kB c0 c1 c2 c3 h0 n0 vv_ UV_.heap LL_ ∧ FrameEnd UU_ oo_ UV_ LL_ (⟨1, 0, 0, 13⟩ : Room).cells (⟨1, 0, 0, 13⟩ : Room).slots) := by
 refine MetFree.of_bodySF (plainFor_of_name own_pn_java_lang_String) hisR ?_
 intro p e s m args below meth c s₁ Bd hml0 hP hK
 obtain ⟨rfl, hZ, hh⟩ := hP
 have hx := Bd.exec
 have hby := Bd.bytes
 have hml : c.maxLocals = 1 := hml0
 have hown : s.vm.findClass "java/lang/String" = some m.cls := findClass_of_methodNamed Bd.named
 have hnm := (name_of_methodNamed Bd.named Bd.method).1
 have X0 : Stand p l e (⟨1, 0, 0, 13⟩ : Room) s m #[.ref x] below meth c s₁ [] 0 0 := Stand.of_body Bd
 have e0 : s₁.heap = h0 := by rw [← hh, Bd.state]; rfl
 have N0 := Fr.nil n0
 have hn0 : Z.heap.size = n0 := O0.1
 have KT0 : Keep h0 h0 [] := Keep.refl _ _
 refine own_enter (Φ := fun oo_ UV_ => ∃ vv_ LL_, oo_ = .returned vv_ ∧ Q_rmLen_4 Z zC vF hvF x t kB c0 c1 c2 c3 h0 n0 vv_ UV_.heap LL_ ∧ FrameEnd s oo_ UV_ LL_ (⟨1, 0, 0, 13⟩ : Room).cells (⟨1, 0, 0, 13⟩ : Room).slots) (own_ef_rmLen_4 m x) ?_
 refine own_by (T' := s₁) (g' := (mkF m 1 #[.val (.ref x)] [.ref x])) (fun _ kt_ => XS.aloadN X0.here hx rfl (hb hby own_d7_0) rfl rfl kt_) ?_
 obtain ⟨T1, X1, e1, st1⟩ := getF X0 hx hZ hown (host := "") (Or.inl (ww hw 27 rfl)) Via.refl e0 Fv (g := (mkF m 1 #[.val (.ref x)] [.ref x])) rfl rfl (hb hby own_d7_1)
 refine own_by (T' := T1) (g' := (mkF m 4 #[.val (.ref x)] [.ref t])) st1 ?_
 obtain ⟨cl2, Ar2, q2, S2, M2, H2, G2⟩ := id Vt
 refine own_by (T' := T1) (g' := (mkF m 5 #[.val (.ref x)] [.int 4])) (fun _ kt_ => X1.arraylength hx (by rw [e1]; exact Ar2.1) (State.isArrayOf_alike hZ.alike Ar2.2.1) (g := (mkF m 4 #[.val (.ref x)] [.ref t])) rfl rfl (hb hby own_d7_4) _ (by rw [len_of S2 M2]; exact kt_)) ?_
 refine own_by (T' := T1) (g' := (mkF m 6 #[.val (.ref x)] [.ref x, .int 4])) (fun _ kt_ => XS.aloadN X1.here hx rfl (hb hby own_d7_5) rfl rfl kt_) ?_
 obtain ⟨cq3, kq3, q3a, q3b, q3c⟩ := isOf hZ e1 E_x
 obtain ⟨_, _, ⟨T3, L3, k3, n3⟩, -, X3, ⟨Lc3, hQ3, l3, y3, z3⟩, st3⟩ := X1.virtualBack hx (y := (⟨"java/lang/String", "coder", "()B"⟩ : MethodName)) (z := (⟨"java/lang/String", "coder", "()B"⟩ : MethodName)) hown (mvT hZ (ww hw 38 rfl)) (mvT hZ (ww hw 39 rfl)) (notFace_of_selects (args := #[]) (mvT hZ (ww hw 41 rfl))) (mvT hZ (ww hw 41 rfl)) (mvT hZ (ww hw 40 rfl)) (by decide) (backOf (W := 1) (rmCoder l Z a0 hw [] zC vF hvF GS x h0 n0 (by omega) O0 Fc) hZ (ww hw 42 rfl) (ww hw 9 rfl) (by decide) (by decide)) q3a q3c (g := (mkF m 6 #[.val (.ref x)] [.ref x, .int 4])) rfl (by rw [hml]; rfl) (Steps.refl _) (argsL := []) (rest := [.int 4]) (lenOf own_pd_6 rfl) rfl (by show 2 * 0 + _ ≤ _; exact Nat.le_of_eq rfl) (hb hby own_d7_6) (fun _ _ => ⟨rfl, e1, (by decide : 0 + 0 ≤ _), (by decide : 0 + 0 ≤ _)⟩)
 dsimp only [Pt.U, Pt.locs, Pt.cells, Pt.slots] at X3 l3 y3 z3 st3 hQ3
 subst l3 y3 z3
 obtain ⟨rfl, N3q, e3⟩ := hQ3
 have N4 := Fr.app N0 N3q
 refine own_by (T' := T3) (g' := (mkF m 9 #[.val (.ref x)] [.int 0, .int 4])) (fun _ kt_ => st3.trans kt_) ?_
 refine own_by (T' := T3) (g' := (mkF m 10 #[.val (.ref x)] [(.int ((4 : Int32) >>> ((0 : Int32) &&& 31)))])) (fun _ kt_ => XS.ishr X3.here hx rfl (hb hby own_d7_9) rfl kt_) ?_
 have hr5 : ((4 : Int32) >>> ((0 : Int32) &&& 31)) = (4 : Int32) := by decide
 obtain ⟨fs6, hr6, hrun6, hended6, hW6, hsame6⟩ := X3.leave (v := some (.int ((4 : Int32) >>> ((0 : Int32) &&& 31)))) (fun h => by rw [Bd.returns] at h; cases h)
 refine ⟨_, _, retOut X3 hx (t := .int) Bd.returns rfl (Or.inl ⟨rfl, Or.inl rfl, _, rfl⟩) (hb hby own_d7_10) hr6, hrun6, hended6, _, _, rfl, ?_, ⟨_, rfl⟩, hW6, hsame6.mono (by decide) (by decide)⟩
 show Q_rmLen_4 Z zC vF hvF x t kB c0 c1 c2 c3 h0 n0 _ T3.heap _
 exact ⟨(congrArg (fun z => some (Value.int z)) hr5), N4, e3⟩
theorem own_ef_rmLch_4_0 (m : MethodId) (x0 : Addr) (x1 : Int32) : entryFrame m #[.ref x0, .int x1] 2 = mkF m 0 #[.val (.ref x0), .val (.int x1)] [] := by first | (simp [entryFrame, mkF, argsToLocals, Value.category]; done) | rfl
def Q_rmLch_4_0 (Z : State) (zC : Int32) (vF : Value) (hvF : vF.isRef = true) (t : Addr) (kB : ClassId) (b0 : Int32) (b1 : Int32) (b2 : Int32) (b3 : Int32) (h0 : Heap) (n0 : Nat) (vv_ : Option Value) (hh_ : Heap) (LL_ : List Loc) : Prop := vv_ = some (.int ((b0 &&& (255 : Int32)).toUInt32.toUInt16.toUInt32.toInt32)) ∧ Fr n0 LL_ ∧ hh_ = h0
set_option maxRecDepth 65536 in
set_option maxHeartbeats 40000000 in
theorem rmLch_4_0 (l : Launch) (Z : State) (a0 : Array Value) (hw : ∀ d ∈ tables_1, d.before a0 Z = true) (ws : List Jvm.Cond) (zC : Int32) (vF : Value) (hvF : vF.isRef = true) (GS : Glob Z zC vF hvF) (t : Addr) (kB : ClassId) (b0 : Int32) (b1 : Int32) (b2 : Int32) (b3 : Int32) (h0 : Heap) (n0 : Nat) (Z0 : n0 ≤ h0.size) (O0 : Old Z n0 h0) (Vt : Arv Z h0 t kB .byte (4 : Int32) [.int b0, .int b1, .int b2, .int b3] (.int 0)) :
  MetFree l (⟨"java/lang/StringLatin1", "charAt", "([BI)C"⟩ : MethodName) (head1 (Jvm.Cond.code (⟨"java/lang/StringLatin1", "charAt", "([BI)C"⟩ : MethodName) jdk_43_method_2_code 2 (some .char) :: ws) (⟨2, 0, 0, 27⟩ : Room)) (fun aa_ UU_ => aa_ = #[.ref t, .int 0] ∧ Z.Warmed39 UU_.vm ∧ UU_.heap = h0) (fun _ _ _ _ _ => True) (fun _ UU_ oo_ UV_ => ∃ vv_ LL_, oo_ = .returned vv_ ∧ Q_rmLch_4_0 Z zC vF hvF t kB b0 b1 b2 b3 h0 n0 vv_ UV_.heap LL_ ∧ FrameEnd UU_ oo_ UV_ LL_ (⟨2, 0, 0, 27⟩ : Room).cells (⟨2, 0, 0, 27⟩ : Room).slots) := by
 refine MetFree.of_bodySF (plainFor_of_name own_pn_java_lang_StringLatin1) hisR ?_
 intro p e s m args below meth c s₁ Bd hml0 hP hK
 obtain ⟨rfl, hZ, hh⟩ := hP
 have hx := Bd.exec
 have hby := Bd.bytes
 have hml : c.maxLocals = 2 := hml0
 have hown : s.vm.findClass "java/lang/StringLatin1" = some m.cls := findClass_of_methodNamed Bd.named
 have hnm := (name_of_methodNamed Bd.named Bd.method).1
 have X0 : Stand p l e (⟨2, 0, 0, 27⟩ : Room) s m #[.ref t, .int 0] below meth c s₁ [] 0 0 := Stand.of_body Bd
 have e0 : s₁.heap = h0 := by rw [← hh, Bd.state]; rfl
 have N0 := Fr.nil n0
 have hn0 : Z.heap.size = n0 := O0.1
 have KT0 : Keep h0 h0 [] := Keep.refl _ _
 refine own_enter (Φ := fun oo_ UV_ => ∃ vv_ LL_, oo_ = .returned vv_ ∧ Q_rmLch_4_0 Z zC vF hvF t kB b0 b1 b2 b3 h0 n0 vv_ UV_.heap LL_ ∧ FrameEnd s oo_ UV_ LL_ (⟨2, 0, 0, 27⟩ : Room).cells (⟨2, 0, 0, 27⟩ : Room).slots) (own_ef_rmLch_4_0 m t (0 : Int32)) ?_
 refine own_by (T' := s₁) (g' := (mkF m 1 #[.val (.ref t), .val (.int 0)] [.int 0])) (fun _ kt_ => XS.iloadN X0.here hx rfl (hb hby own_d15_0) rfl kt_) ?_
 refine own_by (T' := s₁) (g' := (mkF m 2 #[.val (.ref t), .val (.int 0)] [.ref t, .int 0])) (fun _ kt_ => XS.aloadN X0.here hx rfl (hb hby own_d15_1) rfl rfl kt_) ?_
 obtain ⟨cl1, Ar1, q1, S1, M1, H1, G1⟩ := id Vt
 refine own_by (T' := s₁) (g' := (mkF m 3 #[.val (.ref t), .val (.int 0)] [.int 4, .int 0])) (fun _ kt_ => X0.arraylength hx (by rw [e0]; exact Ar1.1) (State.isArrayOf_alike hZ.alike Ar1.2.1) (g := (mkF m 2 #[.val (.ref t), .val (.int 0)] [.ref t, .int 0])) rfl rfl (hb hby own_d15_2) _ (by rw [len_of S1 M1]; exact kt_)) ?_
 obtain ⟨_, _, ⟨T2, L2, k2, n2⟩, -, X2, ⟨Lc2, hQ2, l2, y2, z2⟩, st2⟩ := Jvm.LawKit.callS X0 hx (y := (⟨"java/lang/String", "checkIndex", "(II)V"⟩ : MethodName)) hown (mvT hZ (ww hw 71 rfl)) (mvT hZ (ww hw 72 rfl)) (mvT hZ (ww hw 9 rfl)) (mvT hZ (ww hw 73 rfl)) (by decide) (backOf (W := 0) (rmCi l Z a0 hw [] zC vF hvF GS (0 : Int32) (4 : Int32) h0 n0 (by omega) O0 (by decide) (by decide)) hZ (ww hw 73 rfl) (ww hw 9 rfl) (by decide) (by decide)) (g := (mkF m 3 #[.val (.ref t), .val (.int 0)] [.int 4, .int 0])) rfl (by rw [hml]; rfl) (argsL := [.int 0, .int 4]) (rest := []) (lenOf own_pd_7 rfl) rfl (by show 2 * 0 + _ ≤ _; exact Nat.le_of_eq rfl) (hb hby own_d15_3) (fun _ _ => ⟨rfl, e0, (by decide : 0 + 0 ≤ _), (by decide : 0 + 0 ≤ _)⟩)
 dsimp only [Pt.U, Pt.locs, Pt.cells, Pt.slots] at X2 l2 y2 z2 st2 hQ2
 subst l2 y2 z2
 obtain ⟨rfl, N2q, e2⟩ := hQ2
 have N3 := Fr.app N0 N2q
 refine own_by (T' := T2) (g' := (mkF m 6 #[.val (.ref t), .val (.int 0)] [])) st2 ?_
 refine own_by (T' := T2) (g' := (mkF m 7 #[.val (.ref t), .val (.int 0)] [.ref t])) (fun _ kt_ => XS.aloadN X2.here hx rfl (hb hby own_d15_6) rfl rfl kt_) ?_
 refine own_by (T' := T2) (g' := (mkF m 8 #[.val (.ref t), .val (.int 0)] [.int 0, .ref t])) (fun _ kt_ => XS.iloadN X2.here hx rfl (hb hby own_d15_7) rfl kt_) ?_
 obtain ⟨cl4, Ar4, q4, S4, M4, H4, G4⟩ := id Vt
 have hin4 : ¬ ((0 : Int32) < 0 ∨ cl4.slots.size ≤ ((0 : Int32)).toNatClampNeg) := inb_of S4 ⟨by decide, by decide⟩
 have hat4 : cl4.slots[((0 : Int32)).toNatClampNeg]? = some (.int b0) := H4.at hin4 rfl
 refine own_by (T' := T2) (g' := (mkF m 9 #[.val (.ref t), .val (.int 0)] [.int b0])) (fun _ kt_ => X2.baloadBytes hx (j := (0 : Int32)) (v := (.int b0)) (by rw [e2]; exact Ar4.1) (State.isArrayOf_alike hZ.alike Ar4.2.1) Ar4.2.2 hin4 hat4 (g := (mkF m 8 #[.val (.ref t), .val (.int 0)] [.int 0, .ref t])) rfl rfl (hb hby own_d15_8) _ kt_) ?_
 refine own_by (T' := T2) (g' := (mkF m 12 #[.val (.ref t), .val (.int 0)] [.int 255, .int b0])) (fun _ kt_ => XS.sipush X2.here hx rfl (hb hby own_d15_9) kt_) ?_
 refine own_by (T' := T2) (g' := (mkF m 13 #[.val (.ref t), .val (.int 0)] [(.int (b0 &&& (255 : Int32)))])) (fun _ kt_ => XS.iand X2.here hx rfl (hb hby own_d15_12) rfl kt_) ?_
 refine own_by (T' := T2) (g' := (mkF m 14 #[.val (.ref t), .val (.int 0)] [(.int (b0 &&& (255 : Int32)).toUInt32.toUInt16.toUInt32.toInt32)])) (fun _ kt_ => XS.i2c X2.here hx rfl (hb hby own_d15_13) rfl kt_) ?_
 have hn5 : nar .char ((b0 &&& (255 : Int32)).toUInt32.toUInt16.toUInt32.toInt32) = (b0 &&& (255 : Int32)).toUInt32.toUInt16.toUInt32.toInt32 := (own_narC _)
 have hr6 : (b0 &&& (255 : Int32)).toUInt32.toUInt16.toUInt32.toInt32 = ((b0 &&& (255 : Int32)).toUInt32.toUInt16.toUInt32.toInt32) := by simp []
 obtain ⟨fs7, hr7, hrun7, hended7, hW7, hsame7⟩ := X2.leave (v := some (.int (nar .char ((b0 &&& (255 : Int32)).toUInt32.toUInt16.toUInt32.toInt32)))) (fun h => by rw [Bd.returns] at h; cases h)
 refine ⟨_, _, retN X2 hx (t := .char) Bd.returns (by simp) (hb hby own_d15_14) hr7, hrun7, hended7, _, _, rfl, ?_, ⟨_, rfl⟩, hW7, hsame7.mono (by decide) (by decide)⟩
 show Q_rmLch_4_0 Z zC vF hvF t kB b0 b1 b2 b3 h0 n0 _ T2.heap _
 exact ⟨(congrArg (fun z => some (Value.int z)) (hn5.trans hr6)), N3, e2⟩
theorem own_ef_rmChr_4_0 (m : MethodId) (x0 : Addr) (x1 : Int32) : entryFrame m #[.ref x0, .int x1] 2 = mkF m 0 #[.val (.ref x0), .val (.int x1)] [] := by first | (simp [entryFrame, mkF, argsToLocals, Value.category]; done) | rfl
def Q_rmChr_4_0 (Z : State) (zC : Int32) (vF : Value) (hvF : vF.isRef = true) (x : Addr) (t : Addr) (kB : ClassId) (c0 : Int32) (c1 : Int32) (c2 : Int32) (c3 : Int32) (h0 : Heap) (n0 : Nat) (vv_ : Option Value) (hh_ : Heap) (LL_ : List Loc) : Prop := vv_ = some (.int c0) ∧ Fr n0 LL_ ∧ hh_ = h0
set_option maxRecDepth 65536 in
set_option maxHeartbeats 40000000 in
theorem rmChr_4_0 (l : Launch) (Z : State) (a0 : Array Value) (hw : ∀ d ∈ tables_1, d.before a0 Z = true) (ws : List Jvm.Cond) (zC : Int32) (vF : Value) (hvF : vF.isRef = true) (GS : Glob Z zC vF hvF) (x : Addr) (t : Addr) (kB : ClassId) (c0 : Int32) (c1 : Int32) (c2 : Int32) (c3 : Int32) (h0 : Heap) (n0 : Nat) (Z0 : n0 ≤ h0.size) (O0 : Old Z n0 h0) (E_x : Exa Z h0 x "java/lang/String") (Fv : Fld Z h0 x "java/lang/String" "value" "[B" (.ref t)) (Fc : Fld Z h0 x "java/lang/String" "coder" "B" (.int 0)) (Vt : Arv Z h0 t kB .byte (4 : Int32) [(.int c0.toInt8.toInt32), (.int c1.toInt8.toInt32), (.int c2.toInt8.toInt32), (.int c3.toInt8.toInt32)] (.int 0)) (okc : okF c0) :
  MetFree l (⟨"java/lang/String", "charAt", "(I)C"⟩ : MethodName) (head1 (Jvm.Cond.code (⟨"java/lang/String", "charAt", "(I)C"⟩ : MethodName) jdk_42_method_56_code 2 (some .char) :: ws) (⟨3, 0, 0, 40⟩ : Room)) (fun aa_ UU_ => aa_ = #[.ref x, .int 0] ∧ Z.Warmed39 UU_.vm ∧ UU_.heap = h0) (fun _ _ _ _ _ => True) (fun _ UU_ oo_ UV_ => ∃ vv_ LL_, oo_ = .returned vv_ ∧ Q_rmChr_4_0 Z zC vF hvF x t kB c0 c1 c2 c3 h0 n0 vv_ UV_.heap LL_ ∧ FrameEnd UU_ oo_ UV_ LL_ (⟨3, 0, 0, 40⟩ : Room).cells (⟨3, 0, 0, 40⟩ : Room).slots) := by
 refine MetFree.of_bodySF (plainFor_of_name own_pn_java_lang_String) hisR ?_
 intro p e s m args below meth c s₁ Bd hml0 hP hK
 obtain ⟨rfl, hZ, hh⟩ := hP
 have hx := Bd.exec
 have hby := Bd.bytes
 have hml : c.maxLocals = 2 := hml0
 have hown : s.vm.findClass "java/lang/String" = some m.cls := findClass_of_methodNamed Bd.named
 have hnm := (name_of_methodNamed Bd.named Bd.method).1
 have X0 : Stand p l e (⟨3, 0, 0, 40⟩ : Room) s m #[.ref x, .int 0] below meth c s₁ [] 0 0 := Stand.of_body Bd
 have e0 : s₁.heap = h0 := by rw [← hh, Bd.state]; rfl
 have N0 := Fr.nil n0
 have hn0 : Z.heap.size = n0 := O0.1
 have KT0 : Keep h0 h0 [] := Keep.refl _ _
 refine own_enter (Φ := fun oo_ UV_ => ∃ vv_ LL_, oo_ = .returned vv_ ∧ Q_rmChr_4_0 Z zC vF hvF x t kB c0 c1 c2 c3 h0 n0 vv_ UV_.heap LL_ ∧ FrameEnd s oo_ UV_ LL_ (⟨3, 0, 0, 40⟩ : Room).cells (⟨3, 0, 0, 40⟩ : Room).slots) (own_ef_rmChr_4_0 m x (0 : Int32)) ?_
 refine own_by (T' := s₁) (g' := (mkF m 1 #[.val (.ref x), .val (.int 0)] [.ref x])) (fun _ kt_ => XS.aloadN X0.here hx rfl (hb hby own_d13_0) rfl rfl kt_) ?_
 obtain ⟨cq1, kq1, q1a, q1b, q1c⟩ := isOf hZ e0 E_x
 obtain ⟨_, _, ⟨T1, L1, k1, n1⟩, -, X1, ⟨Lc1, hQ1, l1, y1, z1⟩, st1⟩ := X0.virtualBack hx (y := (⟨"java/lang/String", "isLatin1", "()Z"⟩ : MethodName)) (z := (⟨"java/lang/String", "isLatin1", "()Z"⟩ : MethodName)) hown (mvT hZ (ww hw 62 rfl)) (mvT hZ (ww hw 63 rfl)) (notFace_of_selects (args := #[]) (mvT hZ (ww hw 65 rfl))) (mvT hZ (ww hw 65 rfl)) (mvT hZ (ww hw 64 rfl)) (by decide) (backOf (W := 0) (rmLat l Z a0 hw [] zC vF hvF GS x h0 n0 (by omega) O0 Fc) hZ (ww hw 66 rfl) (ww hw 9 rfl) (by decide) (by decide)) q1a q1c (g := (mkF m 1 #[.val (.ref x), .val (.int 0)] [.ref x])) rfl (by rw [hml]; rfl) (Steps.refl _) (argsL := []) (rest := []) (lenOf own_pd_8 rfl) rfl (by show 2 * 0 + _ ≤ _; exact Nat.le_of_eq rfl) (hb hby own_d13_1) (fun _ _ => ⟨rfl, e0, (by decide : 0 + 0 ≤ _), (by decide : 0 + 0 ≤ _)⟩)
 dsimp only [Pt.U, Pt.locs, Pt.cells, Pt.slots] at X1 l1 y1 z1 st1 hQ1
 subst l1 y1 z1
 obtain ⟨rfl, N1q, e1⟩ := hQ1
 have N2 := Fr.app N0 N1q
 refine own_by (T' := T1) (g' := (mkF m 4 #[.val (.ref x), .val (.int 0)] [.int 1])) (fun _ kt_ => st1.trans kt_) ?_
 refine own_by (T' := T1) (g' := (mkF m 7 #[.val (.ref x), .val (.int 0)] [])) (fun _ kt_ => XS.ifNo X1.here hx rfl (hb hby own_d13_4) rfl (XT.i0_eq_f (by decide)) kt_) ?_
 refine own_by (T' := T1) (g' := (mkF m 8 #[.val (.ref x), .val (.int 0)] [.ref x])) (fun _ kt_ => XS.aloadN X1.here hx rfl (hb hby own_d13_7) rfl rfl kt_) ?_
 obtain ⟨T3, X3, e3, st3⟩ := getF X1 hx hZ hown (host := "") (Or.inl (ww hw 27 rfl)) Via.refl e1 Fv (g := (mkF m 8 #[.val (.ref x), .val (.int 0)] [.ref x])) rfl rfl (hb hby own_d13_8)
 refine own_by (T' := T3) (g' := (mkF m 11 #[.val (.ref x), .val (.int 0)] [.ref t])) st3 ?_
 refine own_by (T' := T3) (g' := (mkF m 12 #[.val (.ref x), .val (.int 0)] [.int 0, .ref t])) (fun _ kt_ => XS.iloadN X3.here hx rfl (hb hby own_d13_11) rfl kt_) ?_
 obtain ⟨_, _, ⟨T4, L4, k4, n4⟩, -, X4, ⟨Lc4, hQ4, l4, y4, z4⟩, st4⟩ := Jvm.LawKit.callS X3 hx (y := (⟨"java/lang/StringLatin1", "charAt", "([BI)C"⟩ : MethodName)) hown (mvT hZ (ww hw 67 rfl)) (mvT hZ (ww hw 68 rfl)) (mvT hZ (ww hw 69 rfl)) (mvT hZ (ww hw 70 rfl)) (by decide) (backOf (W := 0) (rmLch_4_0 l Z a0 hw [] zC vF hvF GS t kB c0.toInt8.toInt32 c1.toInt8.toInt32 c2.toInt8.toInt32 c3.toInt8.toInt32 h0 n0 (by omega) O0 Vt) hZ (ww hw 70 rfl) (ww hw 69 rfl) (by decide) (by decide)) (g := (mkF m 12 #[.val (.ref x), .val (.int 0)] [.int 0, .ref t])) rfl (by rw [hml]; rfl) (argsL := [.ref t, .int 0]) (rest := []) (lenOf own_pd_9 rfl) rfl (by show 2 * 0 + _ ≤ _; exact Nat.le_of_eq rfl) (hb hby own_d13_12) (fun _ _ => ⟨rfl, e3, (by decide : 0 + 0 ≤ _), (by decide : 0 + 0 ≤ _)⟩)
 dsimp only [Pt.U, Pt.locs, Pt.cells, Pt.slots] at X4 l4 y4 z4 st4 hQ4
 subst l4 y4 z4
 obtain ⟨rfl, N4q, e4⟩ := hQ4
 have N5 := Fr.app N2 N4q
 refine own_by (T' := T4) (g' := (mkF m 15 #[.val (.ref x), .val (.int 0)] [(.int ((c0.toInt8.toInt32 &&& (255 : Int32)).toUInt32.toUInt16.toUInt32.toInt32))])) st4 ?_
 have hn6 : nar .char ((c0.toInt8.toInt32 &&& (255 : Int32)).toUInt32.toUInt16.toUInt32.toInt32) = ((c0.toInt8.toInt32 &&& (255 : Int32)).toUInt32.toUInt16.toUInt32.toInt32) := (own_narC _)
 have hr7 : ((c0.toInt8.toInt32 &&& (255 : Int32)).toUInt32.toUInt16.toUInt32.toInt32) = c0 := own_chr okc
 obtain ⟨fs8, hr8, hrun8, hended8, hW8, hsame8⟩ := X4.leave (v := some (.int (nar .char ((c0.toInt8.toInt32 &&& (255 : Int32)).toUInt32.toUInt16.toUInt32.toInt32)))) (fun h => by rw [Bd.returns] at h; cases h)
 refine ⟨_, _, retN X4 hx (t := .char) Bd.returns (by simp) (hb hby own_d13_15) hr8, hrun8, hended8, _, _, rfl, ?_, ⟨_, rfl⟩, hW8, hsame8.mono (by decide) (by decide)⟩
 show Q_rmChr_4_0 Z zC vF hvF x t kB c0 c1 c2 c3 h0 n0 _ T4.heap _
 exact ⟨(congrArg (fun z => some (Value.int z)) (hn6.trans hr7)), N5, e4⟩
theorem own_ef_rmLch_4_1 (m : MethodId) (x0 : Addr) (x1 : Int32) : entryFrame m #[.ref x0, .int x1] 2 = mkF m 0 #[.val (.ref x0), .val (.int x1)] [] := by first | (simp [entryFrame, mkF, argsToLocals, Value.category]; done) | rfl
def Q_rmLch_4_1 (Z : State) (zC : Int32) (vF : Value) (hvF : vF.isRef = true) (t : Addr) (kB : ClassId) (b0 : Int32) (b1 : Int32) (b2 : Int32) (b3 : Int32) (h0 : Heap) (n0 : Nat) (vv_ : Option Value) (hh_ : Heap) (LL_ : List Loc) : Prop := vv_ = some (.int ((b1 &&& (255 : Int32)).toUInt32.toUInt16.toUInt32.toInt32)) ∧ Fr n0 LL_ ∧ hh_ = h0
set_option maxRecDepth 65536 in
set_option maxHeartbeats 40000000 in
theorem rmLch_4_1 (l : Launch) (Z : State) (a0 : Array Value) (hw : ∀ d ∈ tables_1, d.before a0 Z = true) (ws : List Jvm.Cond) (zC : Int32) (vF : Value) (hvF : vF.isRef = true) (GS : Glob Z zC vF hvF) (t : Addr) (kB : ClassId) (b0 : Int32) (b1 : Int32) (b2 : Int32) (b3 : Int32) (h0 : Heap) (n0 : Nat) (Z0 : n0 ≤ h0.size) (O0 : Old Z n0 h0) (Vt : Arv Z h0 t kB .byte (4 : Int32) [.int b0, .int b1, .int b2, .int b3] (.int 0)) :
  MetFree l (⟨"java/lang/StringLatin1", "charAt", "([BI)C"⟩ : MethodName) (head1 (Jvm.Cond.code (⟨"java/lang/StringLatin1", "charAt", "([BI)C"⟩ : MethodName) jdk_43_method_2_code 2 (some .char) :: ws) (⟨2, 0, 0, 27⟩ : Room)) (fun aa_ UU_ => aa_ = #[.ref t, .int 1] ∧ Z.Warmed39 UU_.vm ∧ UU_.heap = h0) (fun _ _ _ _ _ => True) (fun _ UU_ oo_ UV_ => ∃ vv_ LL_, oo_ = .returned vv_ ∧ Q_rmLch_4_1 Z zC vF hvF t kB b0 b1 b2 b3 h0 n0 vv_ UV_.heap LL_ ∧ FrameEnd UU_ oo_ UV_ LL_ (⟨2, 0, 0, 27⟩ : Room).cells (⟨2, 0, 0, 27⟩ : Room).slots) := by
 refine MetFree.of_bodySF (plainFor_of_name own_pn_java_lang_StringLatin1) hisR ?_
 intro p e s m args below meth c s₁ Bd hml0 hP hK
 obtain ⟨rfl, hZ, hh⟩ := hP
 have hx := Bd.exec
 have hby := Bd.bytes
 have hml : c.maxLocals = 2 := hml0
 have hown : s.vm.findClass "java/lang/StringLatin1" = some m.cls := findClass_of_methodNamed Bd.named
 have hnm := (name_of_methodNamed Bd.named Bd.method).1
 have X0 : Stand p l e (⟨2, 0, 0, 27⟩ : Room) s m #[.ref t, .int 1] below meth c s₁ [] 0 0 := Stand.of_body Bd
 have e0 : s₁.heap = h0 := by rw [← hh, Bd.state]; rfl
 have N0 := Fr.nil n0
 have hn0 : Z.heap.size = n0 := O0.1
 have KT0 : Keep h0 h0 [] := Keep.refl _ _
 refine own_enter (Φ := fun oo_ UV_ => ∃ vv_ LL_, oo_ = .returned vv_ ∧ Q_rmLch_4_1 Z zC vF hvF t kB b0 b1 b2 b3 h0 n0 vv_ UV_.heap LL_ ∧ FrameEnd s oo_ UV_ LL_ (⟨2, 0, 0, 27⟩ : Room).cells (⟨2, 0, 0, 27⟩ : Room).slots) (own_ef_rmLch_4_1 m t (1 : Int32)) ?_
 refine own_by (T' := s₁) (g' := (mkF m 1 #[.val (.ref t), .val (.int 1)] [.int 1])) (fun _ kt_ => XS.iloadN X0.here hx rfl (hb hby own_d15_0) rfl kt_) ?_
 refine own_by (T' := s₁) (g' := (mkF m 2 #[.val (.ref t), .val (.int 1)] [.ref t, .int 1])) (fun _ kt_ => XS.aloadN X0.here hx rfl (hb hby own_d15_1) rfl rfl kt_) ?_
 obtain ⟨cl1, Ar1, q1, S1, M1, H1, G1⟩ := id Vt
 refine own_by (T' := s₁) (g' := (mkF m 3 #[.val (.ref t), .val (.int 1)] [.int 4, .int 1])) (fun _ kt_ => X0.arraylength hx (by rw [e0]; exact Ar1.1) (State.isArrayOf_alike hZ.alike Ar1.2.1) (g := (mkF m 2 #[.val (.ref t), .val (.int 1)] [.ref t, .int 1])) rfl rfl (hb hby own_d15_2) _ (by rw [len_of S1 M1]; exact kt_)) ?_
 obtain ⟨_, _, ⟨T2, L2, k2, n2⟩, -, X2, ⟨Lc2, hQ2, l2, y2, z2⟩, st2⟩ := Jvm.LawKit.callS X0 hx (y := (⟨"java/lang/String", "checkIndex", "(II)V"⟩ : MethodName)) hown (mvT hZ (ww hw 71 rfl)) (mvT hZ (ww hw 72 rfl)) (mvT hZ (ww hw 9 rfl)) (mvT hZ (ww hw 73 rfl)) (by decide) (backOf (W := 0) (rmCi l Z a0 hw [] zC vF hvF GS (1 : Int32) (4 : Int32) h0 n0 (by omega) O0 (by decide) (by decide)) hZ (ww hw 73 rfl) (ww hw 9 rfl) (by decide) (by decide)) (g := (mkF m 3 #[.val (.ref t), .val (.int 1)] [.int 4, .int 1])) rfl (by rw [hml]; rfl) (argsL := [.int 1, .int 4]) (rest := []) (lenOf own_pd_7 rfl) rfl (by show 2 * 0 + _ ≤ _; exact Nat.le_of_eq rfl) (hb hby own_d15_3) (fun _ _ => ⟨rfl, e0, (by decide : 0 + 0 ≤ _), (by decide : 0 + 0 ≤ _)⟩)
 dsimp only [Pt.U, Pt.locs, Pt.cells, Pt.slots] at X2 l2 y2 z2 st2 hQ2
 subst l2 y2 z2
 obtain ⟨rfl, N2q, e2⟩ := hQ2
 have N3 := Fr.app N0 N2q
 refine own_by (T' := T2) (g' := (mkF m 6 #[.val (.ref t), .val (.int 1)] [])) st2 ?_
 refine own_by (T' := T2) (g' := (mkF m 7 #[.val (.ref t), .val (.int 1)] [.ref t])) (fun _ kt_ => XS.aloadN X2.here hx rfl (hb hby own_d15_6) rfl rfl kt_) ?_
 refine own_by (T' := T2) (g' := (mkF m 8 #[.val (.ref t), .val (.int 1)] [.int 1, .ref t])) (fun _ kt_ => XS.iloadN X2.here hx rfl (hb hby own_d15_7) rfl kt_) ?_
 obtain ⟨cl4, Ar4, q4, S4, M4, H4, G4⟩ := id Vt
 have hin4 : ¬ ((1 : Int32) < 0 ∨ cl4.slots.size ≤ ((1 : Int32)).toNatClampNeg) := inb_of S4 ⟨by decide, by decide⟩
 have hat4 : cl4.slots[((1 : Int32)).toNatClampNeg]? = some (.int b1) := H4.at hin4 rfl
 refine own_by (T' := T2) (g' := (mkF m 9 #[.val (.ref t), .val (.int 1)] [.int b1])) (fun _ kt_ => X2.baloadBytes hx (j := (1 : Int32)) (v := (.int b1)) (by rw [e2]; exact Ar4.1) (State.isArrayOf_alike hZ.alike Ar4.2.1) Ar4.2.2 hin4 hat4 (g := (mkF m 8 #[.val (.ref t), .val (.int 1)] [.int 1, .ref t])) rfl rfl (hb hby own_d15_8) _ kt_) ?_
 refine own_by (T' := T2) (g' := (mkF m 12 #[.val (.ref t), .val (.int 1)] [.int 255, .int b1])) (fun _ kt_ => XS.sipush X2.here hx rfl (hb hby own_d15_9) kt_) ?_
 refine own_by (T' := T2) (g' := (mkF m 13 #[.val (.ref t), .val (.int 1)] [(.int (b1 &&& (255 : Int32)))])) (fun _ kt_ => XS.iand X2.here hx rfl (hb hby own_d15_12) rfl kt_) ?_
 refine own_by (T' := T2) (g' := (mkF m 14 #[.val (.ref t), .val (.int 1)] [(.int (b1 &&& (255 : Int32)).toUInt32.toUInt16.toUInt32.toInt32)])) (fun _ kt_ => XS.i2c X2.here hx rfl (hb hby own_d15_13) rfl kt_) ?_
 have hn5 : nar .char ((b1 &&& (255 : Int32)).toUInt32.toUInt16.toUInt32.toInt32) = (b1 &&& (255 : Int32)).toUInt32.toUInt16.toUInt32.toInt32 := (own_narC _)
 have hr6 : (b1 &&& (255 : Int32)).toUInt32.toUInt16.toUInt32.toInt32 = ((b1 &&& (255 : Int32)).toUInt32.toUInt16.toUInt32.toInt32) := by simp []
 obtain ⟨fs7, hr7, hrun7, hended7, hW7, hsame7⟩ := X2.leave (v := some (.int (nar .char ((b1 &&& (255 : Int32)).toUInt32.toUInt16.toUInt32.toInt32)))) (fun h => by rw [Bd.returns] at h; cases h)
 refine ⟨_, _, retN X2 hx (t := .char) Bd.returns (by simp) (hb hby own_d15_14) hr7, hrun7, hended7, _, _, rfl, ?_, ⟨_, rfl⟩, hW7, hsame7.mono (by decide) (by decide)⟩
 show Q_rmLch_4_1 Z zC vF hvF t kB b0 b1 b2 b3 h0 n0 _ T2.heap _
 exact ⟨(congrArg (fun z => some (Value.int z)) (hn5.trans hr6)), N3, e2⟩
theorem own_ef_rmChr_4_1 (m : MethodId) (x0 : Addr) (x1 : Int32) : entryFrame m #[.ref x0, .int x1] 2 = mkF m 0 #[.val (.ref x0), .val (.int x1)] [] := by first | (simp [entryFrame, mkF, argsToLocals, Value.category]; done) | rfl
def Q_rmChr_4_1 (Z : State) (zC : Int32) (vF : Value) (hvF : vF.isRef = true) (x : Addr) (t : Addr) (kB : ClassId) (c0 : Int32) (c1 : Int32) (c2 : Int32) (c3 : Int32) (h0 : Heap) (n0 : Nat) (vv_ : Option Value) (hh_ : Heap) (LL_ : List Loc) : Prop := vv_ = some (.int c1) ∧ Fr n0 LL_ ∧ hh_ = h0
set_option maxRecDepth 65536 in
set_option maxHeartbeats 40000000 in
theorem rmChr_4_1 (l : Launch) (Z : State) (a0 : Array Value) (hw : ∀ d ∈ tables_1, d.before a0 Z = true) (ws : List Jvm.Cond) (zC : Int32) (vF : Value) (hvF : vF.isRef = true) (GS : Glob Z zC vF hvF) (x : Addr) (t : Addr) (kB : ClassId) (c0 : Int32) (c1 : Int32) (c2 : Int32) (c3 : Int32) (h0 : Heap) (n0 : Nat) (Z0 : n0 ≤ h0.size) (O0 : Old Z n0 h0) (E_x : Exa Z h0 x "java/lang/String") (Fv : Fld Z h0 x "java/lang/String" "value" "[B" (.ref t)) (Fc : Fld Z h0 x "java/lang/String" "coder" "B" (.int 0)) (Vt : Arv Z h0 t kB .byte (4 : Int32) [(.int c0.toInt8.toInt32), (.int c1.toInt8.toInt32), (.int c2.toInt8.toInt32), (.int c3.toInt8.toInt32)] (.int 0)) (okc : okF c1) :
  MetFree l (⟨"java/lang/String", "charAt", "(I)C"⟩ : MethodName) (head1 (Jvm.Cond.code (⟨"java/lang/String", "charAt", "(I)C"⟩ : MethodName) jdk_42_method_56_code 2 (some .char) :: ws) (⟨3, 0, 0, 40⟩ : Room)) (fun aa_ UU_ => aa_ = #[.ref x, .int 1] ∧ Z.Warmed39 UU_.vm ∧ UU_.heap = h0) (fun _ _ _ _ _ => True) (fun _ UU_ oo_ UV_ => ∃ vv_ LL_, oo_ = .returned vv_ ∧ Q_rmChr_4_1 Z zC vF hvF x t kB c0 c1 c2 c3 h0 n0 vv_ UV_.heap LL_ ∧ FrameEnd UU_ oo_ UV_ LL_ (⟨3, 0, 0, 40⟩ : Room).cells (⟨3, 0, 0, 40⟩ : Room).slots) := by
 refine MetFree.of_bodySF (plainFor_of_name own_pn_java_lang_String) hisR ?_
 intro p e s m args below meth c s₁ Bd hml0 hP hK
 obtain ⟨rfl, hZ, hh⟩ := hP
 have hx := Bd.exec
 have hby := Bd.bytes
 have hml : c.maxLocals = 2 := hml0
 have hown : s.vm.findClass "java/lang/String" = some m.cls := findClass_of_methodNamed Bd.named
 have hnm := (name_of_methodNamed Bd.named Bd.method).1
 have X0 : Stand p l e (⟨3, 0, 0, 40⟩ : Room) s m #[.ref x, .int 1] below meth c s₁ [] 0 0 := Stand.of_body Bd
 have e0 : s₁.heap = h0 := by rw [← hh, Bd.state]; rfl
 have N0 := Fr.nil n0
 have hn0 : Z.heap.size = n0 := O0.1
 have KT0 : Keep h0 h0 [] := Keep.refl _ _
 refine own_enter (Φ := fun oo_ UV_ => ∃ vv_ LL_, oo_ = .returned vv_ ∧ Q_rmChr_4_1 Z zC vF hvF x t kB c0 c1 c2 c3 h0 n0 vv_ UV_.heap LL_ ∧ FrameEnd s oo_ UV_ LL_ (⟨3, 0, 0, 40⟩ : Room).cells (⟨3, 0, 0, 40⟩ : Room).slots) (own_ef_rmChr_4_1 m x (1 : Int32)) ?_
 refine own_by (T' := s₁) (g' := (mkF m 1 #[.val (.ref x), .val (.int 1)] [.ref x])) (fun _ kt_ => XS.aloadN X0.here hx rfl (hb hby own_d13_0) rfl rfl kt_) ?_
 obtain ⟨cq1, kq1, q1a, q1b, q1c⟩ := isOf hZ e0 E_x
 obtain ⟨_, _, ⟨T1, L1, k1, n1⟩, -, X1, ⟨Lc1, hQ1, l1, y1, z1⟩, st1⟩ := X0.virtualBack hx (y := (⟨"java/lang/String", "isLatin1", "()Z"⟩ : MethodName)) (z := (⟨"java/lang/String", "isLatin1", "()Z"⟩ : MethodName)) hown (mvT hZ (ww hw 62 rfl)) (mvT hZ (ww hw 63 rfl)) (notFace_of_selects (args := #[]) (mvT hZ (ww hw 65 rfl))) (mvT hZ (ww hw 65 rfl)) (mvT hZ (ww hw 64 rfl)) (by decide) (backOf (W := 0) (rmLat l Z a0 hw [] zC vF hvF GS x h0 n0 (by omega) O0 Fc) hZ (ww hw 66 rfl) (ww hw 9 rfl) (by decide) (by decide)) q1a q1c (g := (mkF m 1 #[.val (.ref x), .val (.int 1)] [.ref x])) rfl (by rw [hml]; rfl) (Steps.refl _) (argsL := []) (rest := []) (lenOf own_pd_8 rfl) rfl (by show 2 * 0 + _ ≤ _; exact Nat.le_of_eq rfl) (hb hby own_d13_1) (fun _ _ => ⟨rfl, e0, (by decide : 0 + 0 ≤ _), (by decide : 0 + 0 ≤ _)⟩)
 dsimp only [Pt.U, Pt.locs, Pt.cells, Pt.slots] at X1 l1 y1 z1 st1 hQ1
 subst l1 y1 z1
 obtain ⟨rfl, N1q, e1⟩ := hQ1
 have N2 := Fr.app N0 N1q
 refine own_by (T' := T1) (g' := (mkF m 4 #[.val (.ref x), .val (.int 1)] [.int 1])) (fun _ kt_ => st1.trans kt_) ?_
 refine own_by (T' := T1) (g' := (mkF m 7 #[.val (.ref x), .val (.int 1)] [])) (fun _ kt_ => XS.ifNo X1.here hx rfl (hb hby own_d13_4) rfl (XT.i0_eq_f (by decide)) kt_) ?_
 refine own_by (T' := T1) (g' := (mkF m 8 #[.val (.ref x), .val (.int 1)] [.ref x])) (fun _ kt_ => XS.aloadN X1.here hx rfl (hb hby own_d13_7) rfl rfl kt_) ?_
 obtain ⟨T3, X3, e3, st3⟩ := getF X1 hx hZ hown (host := "") (Or.inl (ww hw 27 rfl)) Via.refl e1 Fv (g := (mkF m 8 #[.val (.ref x), .val (.int 1)] [.ref x])) rfl rfl (hb hby own_d13_8)
 refine own_by (T' := T3) (g' := (mkF m 11 #[.val (.ref x), .val (.int 1)] [.ref t])) st3 ?_
 refine own_by (T' := T3) (g' := (mkF m 12 #[.val (.ref x), .val (.int 1)] [.int 1, .ref t])) (fun _ kt_ => XS.iloadN X3.here hx rfl (hb hby own_d13_11) rfl kt_) ?_
 obtain ⟨_, _, ⟨T4, L4, k4, n4⟩, -, X4, ⟨Lc4, hQ4, l4, y4, z4⟩, st4⟩ := Jvm.LawKit.callS X3 hx (y := (⟨"java/lang/StringLatin1", "charAt", "([BI)C"⟩ : MethodName)) hown (mvT hZ (ww hw 67 rfl)) (mvT hZ (ww hw 68 rfl)) (mvT hZ (ww hw 69 rfl)) (mvT hZ (ww hw 70 rfl)) (by decide) (backOf (W := 0) (rmLch_4_1 l Z a0 hw [] zC vF hvF GS t kB c0.toInt8.toInt32 c1.toInt8.toInt32 c2.toInt8.toInt32 c3.toInt8.toInt32 h0 n0 (by omega) O0 Vt) hZ (ww hw 70 rfl) (ww hw 69 rfl) (by decide) (by decide)) (g := (mkF m 12 #[.val (.ref x), .val (.int 1)] [.int 1, .ref t])) rfl (by rw [hml]; rfl) (argsL := [.ref t, .int 1]) (rest := []) (lenOf own_pd_9 rfl) rfl (by show 2 * 0 + _ ≤ _; exact Nat.le_of_eq rfl) (hb hby own_d13_12) (fun _ _ => ⟨rfl, e3, (by decide : 0 + 0 ≤ _), (by decide : 0 + 0 ≤ _)⟩)
 dsimp only [Pt.U, Pt.locs, Pt.cells, Pt.slots] at X4 l4 y4 z4 st4 hQ4
 subst l4 y4 z4
 obtain ⟨rfl, N4q, e4⟩ := hQ4
 have N5 := Fr.app N2 N4q
 refine own_by (T' := T4) (g' := (mkF m 15 #[.val (.ref x), .val (.int 1)] [(.int ((c1.toInt8.toInt32 &&& (255 : Int32)).toUInt32.toUInt16.toUInt32.toInt32))])) st4 ?_
 have hn6 : nar .char ((c1.toInt8.toInt32 &&& (255 : Int32)).toUInt32.toUInt16.toUInt32.toInt32) = ((c1.toInt8.toInt32 &&& (255 : Int32)).toUInt32.toUInt16.toUInt32.toInt32) := (own_narC _)
 have hr7 : ((c1.toInt8.toInt32 &&& (255 : Int32)).toUInt32.toUInt16.toUInt32.toInt32) = c1 := own_chr okc
 obtain ⟨fs8, hr8, hrun8, hended8, hW8, hsame8⟩ := X4.leave (v := some (.int (nar .char ((c1.toInt8.toInt32 &&& (255 : Int32)).toUInt32.toUInt16.toUInt32.toInt32)))) (fun h => by rw [Bd.returns] at h; cases h)
 refine ⟨_, _, retN X4 hx (t := .char) Bd.returns (by simp) (hb hby own_d13_15) hr8, hrun8, hended8, _, _, rfl, ?_, ⟨_, rfl⟩, hW8, hsame8.mono (by decide) (by decide)⟩
 show Q_rmChr_4_1 Z zC vF hvF x t kB c0 c1 c2 c3 h0 n0 _ T4.heap _
 exact ⟨(congrArg (fun z => some (Value.int z)) (hn6.trans hr7)), N5, e4⟩
theorem own_ef_rmLch_4_2 (m : MethodId) (x0 : Addr) (x1 : Int32) : entryFrame m #[.ref x0, .int x1] 2 = mkF m 0 #[.val (.ref x0), .val (.int x1)] [] := by first | (simp [entryFrame, mkF, argsToLocals, Value.category]; done) | rfl
def Q_rmLch_4_2 (Z : State) (zC : Int32) (vF : Value) (hvF : vF.isRef = true) (t : Addr) (kB : ClassId) (b0 : Int32) (b1 : Int32) (b2 : Int32) (b3 : Int32) (h0 : Heap) (n0 : Nat) (vv_ : Option Value) (hh_ : Heap) (LL_ : List Loc) : Prop := vv_ = some (.int ((b2 &&& (255 : Int32)).toUInt32.toUInt16.toUInt32.toInt32)) ∧ Fr n0 LL_ ∧ hh_ = h0
set_option maxRecDepth 65536 in
set_option maxHeartbeats 40000000 in
theorem rmLch_4_2 (l : Launch) (Z : State) (a0 : Array Value) (hw : ∀ d ∈ tables_1, d.before a0 Z = true) (ws : List Jvm.Cond) (zC : Int32) (vF : Value) (hvF : vF.isRef = true) (GS : Glob Z zC vF hvF) (t : Addr) (kB : ClassId) (b0 : Int32) (b1 : Int32) (b2 : Int32) (b3 : Int32) (h0 : Heap) (n0 : Nat) (Z0 : n0 ≤ h0.size) (O0 : Old Z n0 h0) (Vt : Arv Z h0 t kB .byte (4 : Int32) [.int b0, .int b1, .int b2, .int b3] (.int 0)) :
  MetFree l (⟨"java/lang/StringLatin1", "charAt", "([BI)C"⟩ : MethodName) (head1 (Jvm.Cond.code (⟨"java/lang/StringLatin1", "charAt", "([BI)C"⟩ : MethodName) jdk_43_method_2_code 2 (some .char) :: ws) (⟨2, 0, 0, 27⟩ : Room)) (fun aa_ UU_ => aa_ = #[.ref t, .int 2] ∧ Z.Warmed39 UU_.vm ∧ UU_.heap = h0) (fun _ _ _ _ _ => True) (fun _ UU_ oo_ UV_ => ∃ vv_ LL_, oo_ = .returned vv_ ∧ Q_rmLch_4_2 Z zC vF hvF t kB b0 b1 b2 b3 h0 n0 vv_ UV_.heap LL_ ∧ FrameEnd UU_ oo_ UV_ LL_ (⟨2, 0, 0, 27⟩ : Room).cells (⟨2, 0, 0, 27⟩ : Room).slots) := by
 refine MetFree.of_bodySF (plainFor_of_name own_pn_java_lang_StringLatin1) hisR ?_
 intro p e s m args below meth c s₁ Bd hml0 hP hK
 obtain ⟨rfl, hZ, hh⟩ := hP
 have hx := Bd.exec
 have hby := Bd.bytes
 have hml : c.maxLocals = 2 := hml0
 have hown : s.vm.findClass "java/lang/StringLatin1" = some m.cls := findClass_of_methodNamed Bd.named
 have hnm := (name_of_methodNamed Bd.named Bd.method).1
 have X0 : Stand p l e (⟨2, 0, 0, 27⟩ : Room) s m #[.ref t, .int 2] below meth c s₁ [] 0 0 := Stand.of_body Bd
 have e0 : s₁.heap = h0 := by rw [← hh, Bd.state]; rfl
 have N0 := Fr.nil n0
 have hn0 : Z.heap.size = n0 := O0.1
 have KT0 : Keep h0 h0 [] := Keep.refl _ _
 refine own_enter (Φ := fun oo_ UV_ => ∃ vv_ LL_, oo_ = .returned vv_ ∧ Q_rmLch_4_2 Z zC vF hvF t kB b0 b1 b2 b3 h0 n0 vv_ UV_.heap LL_ ∧ FrameEnd s oo_ UV_ LL_ (⟨2, 0, 0, 27⟩ : Room).cells (⟨2, 0, 0, 27⟩ : Room).slots) (own_ef_rmLch_4_2 m t (2 : Int32)) ?_
 refine own_by (T' := s₁) (g' := (mkF m 1 #[.val (.ref t), .val (.int 2)] [.int 2])) (fun _ kt_ => XS.iloadN X0.here hx rfl (hb hby own_d15_0) rfl kt_) ?_
 refine own_by (T' := s₁) (g' := (mkF m 2 #[.val (.ref t), .val (.int 2)] [.ref t, .int 2])) (fun _ kt_ => XS.aloadN X0.here hx rfl (hb hby own_d15_1) rfl rfl kt_) ?_
 obtain ⟨cl1, Ar1, q1, S1, M1, H1, G1⟩ := id Vt
 refine own_by (T' := s₁) (g' := (mkF m 3 #[.val (.ref t), .val (.int 2)] [.int 4, .int 2])) (fun _ kt_ => X0.arraylength hx (by rw [e0]; exact Ar1.1) (State.isArrayOf_alike hZ.alike Ar1.2.1) (g := (mkF m 2 #[.val (.ref t), .val (.int 2)] [.ref t, .int 2])) rfl rfl (hb hby own_d15_2) _ (by rw [len_of S1 M1]; exact kt_)) ?_
 obtain ⟨_, _, ⟨T2, L2, k2, n2⟩, -, X2, ⟨Lc2, hQ2, l2, y2, z2⟩, st2⟩ := Jvm.LawKit.callS X0 hx (y := (⟨"java/lang/String", "checkIndex", "(II)V"⟩ : MethodName)) hown (mvT hZ (ww hw 71 rfl)) (mvT hZ (ww hw 72 rfl)) (mvT hZ (ww hw 9 rfl)) (mvT hZ (ww hw 73 rfl)) (by decide) (backOf (W := 0) (rmCi l Z a0 hw [] zC vF hvF GS (2 : Int32) (4 : Int32) h0 n0 (by omega) O0 (by decide) (by decide)) hZ (ww hw 73 rfl) (ww hw 9 rfl) (by decide) (by decide)) (g := (mkF m 3 #[.val (.ref t), .val (.int 2)] [.int 4, .int 2])) rfl (by rw [hml]; rfl) (argsL := [.int 2, .int 4]) (rest := []) (lenOf own_pd_7 rfl) rfl (by show 2 * 0 + _ ≤ _; exact Nat.le_of_eq rfl) (hb hby own_d15_3) (fun _ _ => ⟨rfl, e0, (by decide : 0 + 0 ≤ _), (by decide : 0 + 0 ≤ _)⟩)
 dsimp only [Pt.U, Pt.locs, Pt.cells, Pt.slots] at X2 l2 y2 z2 st2 hQ2
 subst l2 y2 z2
 obtain ⟨rfl, N2q, e2⟩ := hQ2
 have N3 := Fr.app N0 N2q
 refine own_by (T' := T2) (g' := (mkF m 6 #[.val (.ref t), .val (.int 2)] [])) st2 ?_
 refine own_by (T' := T2) (g' := (mkF m 7 #[.val (.ref t), .val (.int 2)] [.ref t])) (fun _ kt_ => XS.aloadN X2.here hx rfl (hb hby own_d15_6) rfl rfl kt_) ?_
 refine own_by (T' := T2) (g' := (mkF m 8 #[.val (.ref t), .val (.int 2)] [.int 2, .ref t])) (fun _ kt_ => XS.iloadN X2.here hx rfl (hb hby own_d15_7) rfl kt_) ?_
 obtain ⟨cl4, Ar4, q4, S4, M4, H4, G4⟩ := id Vt
 have hin4 : ¬ ((2 : Int32) < 0 ∨ cl4.slots.size ≤ ((2 : Int32)).toNatClampNeg) := inb_of S4 ⟨by decide, by decide⟩
 have hat4 : cl4.slots[((2 : Int32)).toNatClampNeg]? = some (.int b2) := H4.at hin4 rfl
 refine own_by (T' := T2) (g' := (mkF m 9 #[.val (.ref t), .val (.int 2)] [.int b2])) (fun _ kt_ => X2.baloadBytes hx (j := (2 : Int32)) (v := (.int b2)) (by rw [e2]; exact Ar4.1) (State.isArrayOf_alike hZ.alike Ar4.2.1) Ar4.2.2 hin4 hat4 (g := (mkF m 8 #[.val (.ref t), .val (.int 2)] [.int 2, .ref t])) rfl rfl (hb hby own_d15_8) _ kt_) ?_
 refine own_by (T' := T2) (g' := (mkF m 12 #[.val (.ref t), .val (.int 2)] [.int 255, .int b2])) (fun _ kt_ => XS.sipush X2.here hx rfl (hb hby own_d15_9) kt_) ?_
 refine own_by (T' := T2) (g' := (mkF m 13 #[.val (.ref t), .val (.int 2)] [(.int (b2 &&& (255 : Int32)))])) (fun _ kt_ => XS.iand X2.here hx rfl (hb hby own_d15_12) rfl kt_) ?_
 refine own_by (T' := T2) (g' := (mkF m 14 #[.val (.ref t), .val (.int 2)] [(.int (b2 &&& (255 : Int32)).toUInt32.toUInt16.toUInt32.toInt32)])) (fun _ kt_ => XS.i2c X2.here hx rfl (hb hby own_d15_13) rfl kt_) ?_
 have hn5 : nar .char ((b2 &&& (255 : Int32)).toUInt32.toUInt16.toUInt32.toInt32) = (b2 &&& (255 : Int32)).toUInt32.toUInt16.toUInt32.toInt32 := (own_narC _)
 have hr6 : (b2 &&& (255 : Int32)).toUInt32.toUInt16.toUInt32.toInt32 = ((b2 &&& (255 : Int32)).toUInt32.toUInt16.toUInt32.toInt32) := by simp []
 obtain ⟨fs7, hr7, hrun7, hended7, hW7, hsame7⟩ := X2.leave (v := some (.int (nar .char ((b2 &&& (255 : Int32)).toUInt32.toUInt16.toUInt32.toInt32)))) (fun h => by rw [Bd.returns] at h; cases h)
 refine ⟨_, _, retN X2 hx (t := .char) Bd.returns (by simp) (hb hby own_d15_14) hr7, hrun7, hended7, _, _, rfl, ?_, ⟨_, rfl⟩, hW7, hsame7.mono (by decide) (by decide)⟩
 show Q_rmLch_4_2 Z zC vF hvF t kB b0 b1 b2 b3 h0 n0 _ T2.heap _
 exact ⟨(congrArg (fun z => some (Value.int z)) (hn5.trans hr6)), N3, e2⟩
theorem own_ef_rmChr_4_2 (m : MethodId) (x0 : Addr) (x1 : Int32) : entryFrame m #[.ref x0, .int x1] 2 = mkF m 0 #[.val (.ref x0), .val (.int x1)] [] := by first | (simp [entryFrame, mkF, argsToLocals, Value.category]; done) | rfl
def Q_rmChr_4_2 (Z : State) (zC : Int32) (vF : Value) (hvF : vF.isRef = true) (x : Addr) (t : Addr) (kB : ClassId) (c0 : Int32) (c1 : Int32) (c2 : Int32) (c3 : Int32) (h0 : Heap) (n0 : Nat) (vv_ : Option Value) (hh_ : Heap) (LL_ : List Loc) : Prop := vv_ = some (.int c2) ∧ Fr n0 LL_ ∧ hh_ = h0
set_option maxRecDepth 65536 in
set_option maxHeartbeats 40000000 in
theorem rmChr_4_2 (l : Launch) (Z : State) (a0 : Array Value) (hw : ∀ d ∈ tables_1, d.before a0 Z = true) (ws : List Jvm.Cond) (zC : Int32) (vF : Value) (hvF : vF.isRef = true) (GS : Glob Z zC vF hvF) (x : Addr) (t : Addr) (kB : ClassId) (c0 : Int32) (c1 : Int32) (c2 : Int32) (c3 : Int32) (h0 : Heap) (n0 : Nat) (Z0 : n0 ≤ h0.size) (O0 : Old Z n0 h0) (E_x : Exa Z h0 x "java/lang/String") (Fv : Fld Z h0 x "java/lang/String" "value" "[B" (.ref t)) (Fc : Fld Z h0 x "java/lang/String" "coder" "B" (.int 0)) (Vt : Arv Z h0 t kB .byte (4 : Int32) [(.int c0.toInt8.toInt32), (.int c1.toInt8.toInt32), (.int c2.toInt8.toInt32), (.int c3.toInt8.toInt32)] (.int 0)) (okc : okF c2) :
  MetFree l (⟨"java/lang/String", "charAt", "(I)C"⟩ : MethodName) (head1 (Jvm.Cond.code (⟨"java/lang/String", "charAt", "(I)C"⟩ : MethodName) jdk_42_method_56_code 2 (some .char) :: ws) (⟨3, 0, 0, 40⟩ : Room)) (fun aa_ UU_ => aa_ = #[.ref x, .int 2] ∧ Z.Warmed39 UU_.vm ∧ UU_.heap = h0) (fun _ _ _ _ _ => True) (fun _ UU_ oo_ UV_ => ∃ vv_ LL_, oo_ = .returned vv_ ∧ Q_rmChr_4_2 Z zC vF hvF x t kB c0 c1 c2 c3 h0 n0 vv_ UV_.heap LL_ ∧ FrameEnd UU_ oo_ UV_ LL_ (⟨3, 0, 0, 40⟩ : Room).cells (⟨3, 0, 0, 40⟩ : Room).slots) := by
 refine MetFree.of_bodySF (plainFor_of_name own_pn_java_lang_String) hisR ?_
 intro p e s m args below meth c s₁ Bd hml0 hP hK
 obtain ⟨rfl, hZ, hh⟩ := hP
 have hx := Bd.exec
 have hby := Bd.bytes
 have hml : c.maxLocals = 2 := hml0
 have hown : s.vm.findClass "java/lang/String" = some m.cls := findClass_of_methodNamed Bd.named
 have hnm := (name_of_methodNamed Bd.named Bd.method).1
 have X0 : Stand p l e (⟨3, 0, 0, 40⟩ : Room) s m #[.ref x, .int 2] below meth c s₁ [] 0 0 := Stand.of_body Bd
 have e0 : s₁.heap = h0 := by rw [← hh, Bd.state]; rfl
 have N0 := Fr.nil n0
 have hn0 : Z.heap.size = n0 := O0.1
 have KT0 : Keep h0 h0 [] := Keep.refl _ _
 refine own_enter (Φ := fun oo_ UV_ => ∃ vv_ LL_, oo_ = .returned vv_ ∧ Q_rmChr_4_2 Z zC vF hvF x t kB c0 c1 c2 c3 h0 n0 vv_ UV_.heap LL_ ∧ FrameEnd s oo_ UV_ LL_ (⟨3, 0, 0, 40⟩ : Room).cells (⟨3, 0, 0, 40⟩ : Room).slots) (own_ef_rmChr_4_2 m x (2 : Int32)) ?_
 refine own_by (T' := s₁) (g' := (mkF m 1 #[.val (.ref x), .val (.int 2)] [.ref x])) (fun _ kt_ => XS.aloadN X0.here hx rfl (hb hby own_d13_0) rfl rfl kt_) ?_
 obtain ⟨cq1, kq1, q1a, q1b, q1c⟩ := isOf hZ e0 E_x
 obtain ⟨_, _, ⟨T1, L1, k1, n1⟩, -, X1, ⟨Lc1, hQ1, l1, y1, z1⟩, st1⟩ := X0.virtualBack hx (y := (⟨"java/lang/String", "isLatin1", "()Z"⟩ : MethodName)) (z := (⟨"java/lang/String", "isLatin1", "()Z"⟩ : MethodName)) hown (mvT hZ (ww hw 62 rfl)) (mvT hZ (ww hw 63 rfl)) (notFace_of_selects (args := #[]) (mvT hZ (ww hw 65 rfl))) (mvT hZ (ww hw 65 rfl)) (mvT hZ (ww hw 64 rfl)) (by decide) (backOf (W := 0) (rmLat l Z a0 hw [] zC vF hvF GS x h0 n0 (by omega) O0 Fc) hZ (ww hw 66 rfl) (ww hw 9 rfl) (by decide) (by decide)) q1a q1c (g := (mkF m 1 #[.val (.ref x), .val (.int 2)] [.ref x])) rfl (by rw [hml]; rfl) (Steps.refl _) (argsL := []) (rest := []) (lenOf own_pd_8 rfl) rfl (by show 2 * 0 + _ ≤ _; exact Nat.le_of_eq rfl) (hb hby own_d13_1) (fun _ _ => ⟨rfl, e0, (by decide : 0 + 0 ≤ _), (by decide : 0 + 0 ≤ _)⟩)
 dsimp only [Pt.U, Pt.locs, Pt.cells, Pt.slots] at X1 l1 y1 z1 st1 hQ1
 subst l1 y1 z1
 obtain ⟨rfl, N1q, e1⟩ := hQ1
 have N2 := Fr.app N0 N1q
 refine own_by (T' := T1) (g' := (mkF m 4 #[.val (.ref x), .val (.int 2)] [.int 1])) (fun _ kt_ => st1.trans kt_) ?_
 refine own_by (T' := T1) (g' := (mkF m 7 #[.val (.ref x), .val (.int 2)] [])) (fun _ kt_ => XS.ifNo X1.here hx rfl (hb hby own_d13_4) rfl (XT.i0_eq_f (by decide)) kt_) ?_
 refine own_by (T' := T1) (g' := (mkF m 8 #[.val (.ref x), .val (.int 2)] [.ref x])) (fun _ kt_ => XS.aloadN X1.here hx rfl (hb hby own_d13_7) rfl rfl kt_) ?_
 obtain ⟨T3, X3, e3, st3⟩ := getF X1 hx hZ hown (host := "") (Or.inl (ww hw 27 rfl)) Via.refl e1 Fv (g := (mkF m 8 #[.val (.ref x), .val (.int 2)] [.ref x])) rfl rfl (hb hby own_d13_8)
 refine own_by (T' := T3) (g' := (mkF m 11 #[.val (.ref x), .val (.int 2)] [.ref t])) st3 ?_
 refine own_by (T' := T3) (g' := (mkF m 12 #[.val (.ref x), .val (.int 2)] [.int 2, .ref t])) (fun _ kt_ => XS.iloadN X3.here hx rfl (hb hby own_d13_11) rfl kt_) ?_
 obtain ⟨_, _, ⟨T4, L4, k4, n4⟩, -, X4, ⟨Lc4, hQ4, l4, y4, z4⟩, st4⟩ := Jvm.LawKit.callS X3 hx (y := (⟨"java/lang/StringLatin1", "charAt", "([BI)C"⟩ : MethodName)) hown (mvT hZ (ww hw 67 rfl)) (mvT hZ (ww hw 68 rfl)) (mvT hZ (ww hw 69 rfl)) (mvT hZ (ww hw 70 rfl)) (by decide) (backOf (W := 0) (rmLch_4_2 l Z a0 hw [] zC vF hvF GS t kB c0.toInt8.toInt32 c1.toInt8.toInt32 c2.toInt8.toInt32 c3.toInt8.toInt32 h0 n0 (by omega) O0 Vt) hZ (ww hw 70 rfl) (ww hw 69 rfl) (by decide) (by decide)) (g := (mkF m 12 #[.val (.ref x), .val (.int 2)] [.int 2, .ref t])) rfl (by rw [hml]; rfl) (argsL := [.ref t, .int 2]) (rest := []) (lenOf own_pd_9 rfl) rfl (by show 2 * 0 + _ ≤ _; exact Nat.le_of_eq rfl) (hb hby own_d13_12) (fun _ _ => ⟨rfl, e3, (by decide : 0 + 0 ≤ _), (by decide : 0 + 0 ≤ _)⟩)
 dsimp only [Pt.U, Pt.locs, Pt.cells, Pt.slots] at X4 l4 y4 z4 st4 hQ4
 subst l4 y4 z4
 obtain ⟨rfl, N4q, e4⟩ := hQ4
 have N5 := Fr.app N2 N4q
 refine own_by (T' := T4) (g' := (mkF m 15 #[.val (.ref x), .val (.int 2)] [(.int ((c2.toInt8.toInt32 &&& (255 : Int32)).toUInt32.toUInt16.toUInt32.toInt32))])) st4 ?_
 have hn6 : nar .char ((c2.toInt8.toInt32 &&& (255 : Int32)).toUInt32.toUInt16.toUInt32.toInt32) = ((c2.toInt8.toInt32 &&& (255 : Int32)).toUInt32.toUInt16.toUInt32.toInt32) := (own_narC _)
 have hr7 : ((c2.toInt8.toInt32 &&& (255 : Int32)).toUInt32.toUInt16.toUInt32.toInt32) = c2 := own_chr okc
 obtain ⟨fs8, hr8, hrun8, hended8, hW8, hsame8⟩ := X4.leave (v := some (.int (nar .char ((c2.toInt8.toInt32 &&& (255 : Int32)).toUInt32.toUInt16.toUInt32.toInt32)))) (fun h => by rw [Bd.returns] at h; cases h)
 refine ⟨_, _, retN X4 hx (t := .char) Bd.returns (by simp) (hb hby own_d13_15) hr8, hrun8, hended8, _, _, rfl, ?_, ⟨_, rfl⟩, hW8, hsame8.mono (by decide) (by decide)⟩
 show Q_rmChr_4_2 Z zC vF hvF x t kB c0 c1 c2 c3 h0 n0 _ T4.heap _
 exact ⟨(congrArg (fun z => some (Value.int z)) (hn6.trans hr7)), N5, e4⟩
theorem own_ef_rmLch_4_3 (m : MethodId) (x0 : Addr) (x1 : Int32) : entryFrame m #[.ref x0, .int x1] 2 = mkF m 0 #[.val (.ref x0), .val (.int x1)] [] := by first | (simp [entryFrame, mkF, argsToLocals, Value.category]; done) | rfl
def Q_rmLch_4_3 (Z : State) (zC : Int32) (vF : Value) (hvF : vF.isRef = true) (t : Addr) (kB : ClassId) (b0 : Int32) (b1 : Int32) (b2 : Int32) (b3 : Int32) (h0 : Heap) (n0 : Nat) (vv_ : Option Value) (hh_ : Heap) (LL_ : List Loc) : Prop := vv_ = some (.int ((b3 &&& (255 : Int32)).toUInt32.toUInt16.toUInt32.toInt32)) ∧ Fr n0 LL_ ∧ hh_ = h0
set_option maxRecDepth 65536 in
set_option maxHeartbeats 40000000 in
theorem rmLch_4_3 (l : Launch) (Z : State) (a0 : Array Value) (hw : ∀ d ∈ tables_1, d.before a0 Z = true) (ws : List Jvm.Cond) (zC : Int32) (vF : Value) (hvF : vF.isRef = true) (GS : Glob Z zC vF hvF) (t : Addr) (kB : ClassId) (b0 : Int32) (b1 : Int32) (b2 : Int32) (b3 : Int32) (h0 : Heap) (n0 : Nat) (Z0 : n0 ≤ h0.size) (O0 : Old Z n0 h0) (Vt : Arv Z h0 t kB .byte (4 : Int32) [.int b0, .int b1, .int b2, .int b3] (.int 0)) :
  MetFree l (⟨"java/lang/StringLatin1", "charAt", "([BI)C"⟩ : MethodName) (head1 (Jvm.Cond.code (⟨"java/lang/StringLatin1", "charAt", "([BI)C"⟩ : MethodName) jdk_43_method_2_code 2 (some .char) :: ws) (⟨2, 0, 0, 27⟩ : Room)) (fun aa_ UU_ => aa_ = #[.ref t, .int 3] ∧ Z.Warmed39 UU_.vm ∧ UU_.heap = h0) (fun _ _ _ _ _ => True) (fun _ UU_ oo_ UV_ => ∃ vv_ LL_, oo_ = .returned vv_ ∧ Q_rmLch_4_3 Z zC vF hvF t kB b0 b1 b2 b3 h0 n0 vv_ UV_.heap LL_ ∧ FrameEnd UU_ oo_ UV_ LL_ (⟨2, 0, 0, 27⟩ : Room).cells (⟨2, 0, 0, 27⟩ : Room).slots) := by
 refine MetFree.of_bodySF (plainFor_of_name own_pn_java_lang_StringLatin1) hisR ?_
 intro p e s m args below meth c s₁ Bd hml0 hP hK
 obtain ⟨rfl, hZ, hh⟩ := hP
 have hx := Bd.exec
 have hby := Bd.bytes
 have hml : c.maxLocals = 2 := hml0
 have hown : s.vm.findClass "java/lang/StringLatin1" = some m.cls := findClass_of_methodNamed Bd.named
 have hnm := (name_of_methodNamed Bd.named Bd.method).1
 have X0 : Stand p l e (⟨2, 0, 0, 27⟩ : Room) s m #[.ref t, .int 3] below meth c s₁ [] 0 0 := Stand.of_body Bd
 have e0 : s₁.heap = h0 := by rw [← hh, Bd.state]; rfl
 have N0 := Fr.nil n0
 have hn0 : Z.heap.size = n0 := O0.1
 have KT0 : Keep h0 h0 [] := Keep.refl _ _
 refine own_enter (Φ := fun oo_ UV_ => ∃ vv_ LL_, oo_ = .returned vv_ ∧ Q_rmLch_4_3 Z zC vF hvF t kB b0 b1 b2 b3 h0 n0 vv_ UV_.heap LL_ ∧ FrameEnd s oo_ UV_ LL_ (⟨2, 0, 0, 27⟩ : Room).cells (⟨2, 0, 0, 27⟩ : Room).slots) (own_ef_rmLch_4_3 m t (3 : Int32)) ?_
 refine own_by (T' := s₁) (g' := (mkF m 1 #[.val (.ref t), .val (.int 3)] [.int 3])) (fun _ kt_ => XS.iloadN X0.here hx rfl (hb hby own_d15_0) rfl kt_) ?_
 refine own_by (T' := s₁) (g' := (mkF m 2 #[.val (.ref t), .val (.int 3)] [.ref t, .int 3])) (fun _ kt_ => XS.aloadN X0.here hx rfl (hb hby own_d15_1) rfl rfl kt_) ?_
 obtain ⟨cl1, Ar1, q1, S1, M1, H1, G1⟩ := id Vt
 refine own_by (T' := s₁) (g' := (mkF m 3 #[.val (.ref t), .val (.int 3)] [.int 4, .int 3])) (fun _ kt_ => X0.arraylength hx (by rw [e0]; exact Ar1.1) (State.isArrayOf_alike hZ.alike Ar1.2.1) (g := (mkF m 2 #[.val (.ref t), .val (.int 3)] [.ref t, .int 3])) rfl rfl (hb hby own_d15_2) _ (by rw [len_of S1 M1]; exact kt_)) ?_
 obtain ⟨_, _, ⟨T2, L2, k2, n2⟩, -, X2, ⟨Lc2, hQ2, l2, y2, z2⟩, st2⟩ := Jvm.LawKit.callS X0 hx (y := (⟨"java/lang/String", "checkIndex", "(II)V"⟩ : MethodName)) hown (mvT hZ (ww hw 71 rfl)) (mvT hZ (ww hw 72 rfl)) (mvT hZ (ww hw 9 rfl)) (mvT hZ (ww hw 73 rfl)) (by decide) (backOf (W := 0) (rmCi l Z a0 hw [] zC vF hvF GS (3 : Int32) (4 : Int32) h0 n0 (by omega) O0 (by decide) (by decide)) hZ (ww hw 73 rfl) (ww hw 9 rfl) (by decide) (by decide)) (g := (mkF m 3 #[.val (.ref t), .val (.int 3)] [.int 4, .int 3])) rfl (by rw [hml]; rfl) (argsL := [.int 3, .int 4]) (rest := []) (lenOf own_pd_7 rfl) rfl (by show 2 * 0 + _ ≤ _; exact Nat.le_of_eq rfl) (hb hby own_d15_3) (fun _ _ => ⟨rfl, e0, (by decide : 0 + 0 ≤ _), (by decide : 0 + 0 ≤ _)⟩)
 dsimp only [Pt.U, Pt.locs, Pt.cells, Pt.slots] at X2 l2 y2 z2 st2 hQ2
 subst l2 y2 z2
 obtain ⟨rfl, N2q, e2⟩ := hQ2
 have N3 := Fr.app N0 N2q
 refine own_by (T' := T2) (g' := (mkF m 6 #[.val (.ref t), .val (.int 3)] [])) st2 ?_
 refine own_by (T' := T2) (g' := (mkF m 7 #[.val (.ref t), .val (.int 3)] [.ref t])) (fun _ kt_ => XS.aloadN X2.here hx rfl (hb hby own_d15_6) rfl rfl kt_) ?_
 refine own_by (T' := T2) (g' := (mkF m 8 #[.val (.ref t), .val (.int 3)] [.int 3, .ref t])) (fun _ kt_ => XS.iloadN X2.here hx rfl (hb hby own_d15_7) rfl kt_) ?_
 obtain ⟨cl4, Ar4, q4, S4, M4, H4, G4⟩ := id Vt
 have hin4 : ¬ ((3 : Int32) < 0 ∨ cl4.slots.size ≤ ((3 : Int32)).toNatClampNeg) := inb_of S4 ⟨by decide, by decide⟩
 have hat4 : cl4.slots[((3 : Int32)).toNatClampNeg]? = some (.int b3) := H4.at hin4 rfl
 refine own_by (T' := T2) (g' := (mkF m 9 #[.val (.ref t), .val (.int 3)] [.int b3])) (fun _ kt_ => X2.baloadBytes hx (j := (3 : Int32)) (v := (.int b3)) (by rw [e2]; exact Ar4.1) (State.isArrayOf_alike hZ.alike Ar4.2.1) Ar4.2.2 hin4 hat4 (g := (mkF m 8 #[.val (.ref t), .val (.int 3)] [.int 3, .ref t])) rfl rfl (hb hby own_d15_8) _ kt_) ?_
 refine own_by (T' := T2) (g' := (mkF m 12 #[.val (.ref t), .val (.int 3)] [.int 255, .int b3])) (fun _ kt_ => XS.sipush X2.here hx rfl (hb hby own_d15_9) kt_) ?_
 refine own_by (T' := T2) (g' := (mkF m 13 #[.val (.ref t), .val (.int 3)] [(.int (b3 &&& (255 : Int32)))])) (fun _ kt_ => XS.iand X2.here hx rfl (hb hby own_d15_12) rfl kt_) ?_
 refine own_by (T' := T2) (g' := (mkF m 14 #[.val (.ref t), .val (.int 3)] [(.int (b3 &&& (255 : Int32)).toUInt32.toUInt16.toUInt32.toInt32)])) (fun _ kt_ => XS.i2c X2.here hx rfl (hb hby own_d15_13) rfl kt_) ?_
 have hn5 : nar .char ((b3 &&& (255 : Int32)).toUInt32.toUInt16.toUInt32.toInt32) = (b3 &&& (255 : Int32)).toUInt32.toUInt16.toUInt32.toInt32 := (own_narC _)
 have hr6 : (b3 &&& (255 : Int32)).toUInt32.toUInt16.toUInt32.toInt32 = ((b3 &&& (255 : Int32)).toUInt32.toUInt16.toUInt32.toInt32) := by simp []
 obtain ⟨fs7, hr7, hrun7, hended7, hW7, hsame7⟩ := X2.leave (v := some (.int (nar .char ((b3 &&& (255 : Int32)).toUInt32.toUInt16.toUInt32.toInt32)))) (fun h => by rw [Bd.returns] at h; cases h)
 refine ⟨_, _, retN X2 hx (t := .char) Bd.returns (by simp) (hb hby own_d15_14) hr7, hrun7, hended7, _, _, rfl, ?_, ⟨_, rfl⟩, hW7, hsame7.mono (by decide) (by decide)⟩
 show Q_rmLch_4_3 Z zC vF hvF t kB b0 b1 b2 b3 h0 n0 _ T2.heap _
 exact ⟨(congrArg (fun z => some (Value.int z)) (hn5.trans hr6)), N3, e2⟩
theorem own_ef_rmChr_4_3 (m : MethodId) (x0 : Addr) (x1 : Int32) : entryFrame m #[.ref x0, .int x1] 2 = mkF m 0 #[.val (.ref x0), .val (.int x1)] [] := by first | (simp [entryFrame, mkF, argsToLocals, Value.category]; done) | rfl
def Q_rmChr_4_3 (Z : State) (zC : Int32) (vF : Value) (hvF : vF.isRef = true) (x : Addr) (t : Addr) (kB : ClassId) (c0 : Int32) (c1 : Int32) (c2 : Int32) (c3 : Int32) (h0 : Heap) (n0 : Nat) (vv_ : Option Value) (hh_ : Heap) (LL_ : List Loc) : Prop := vv_ = some (.int c3) ∧ Fr n0 LL_ ∧ hh_ = h0
set_option maxRecDepth 65536 in
set_option maxHeartbeats 40000000 in
theorem rmChr_4_3 (l : Launch) (Z : State) (a0 : Array Value) (hw : ∀ d ∈ tables_1, d.before a0 Z = true) (ws : List Jvm.Cond) (zC : Int32) (vF : Value) (hvF : vF.isRef = true) (GS : Glob Z zC vF hvF) (x : Addr) (t : Addr) (kB : ClassId) (c0 : Int32) (c1 : Int32) (c2 : Int32) (c3 : Int32) (h0 : Heap) (n0 : Nat) (Z0 : n0 ≤ h0.size) (O0 : Old Z n0 h0) (E_x : Exa Z h0 x "java/lang/String") (Fv : Fld Z h0 x "java/lang/String" "value" "[B" (.ref t)) (Fc : Fld Z h0 x "java/lang/String" "coder" "B" (.int 0)) (Vt : Arv Z h0 t kB .byte (4 : Int32) [(.int c0.toInt8.toInt32), (.int c1.toInt8.toInt32), (.int c2.toInt8.toInt32), (.int c3.toInt8.toInt32)] (.int 0)) (okc : okF c3) :
  MetFree l (⟨"java/lang/String", "charAt", "(I)C"⟩ : MethodName) (head1 (Jvm.Cond.code (⟨"java/lang/String", "charAt", "(I)C"⟩ : MethodName) jdk_42_method_56_code 2 (some .char) :: ws) (⟨3, 0, 0, 40⟩ : Room)) (fun aa_ UU_ => aa_ = #[.ref x, .int 3] ∧ Z.Warmed39 UU_.vm ∧ UU_.heap = h0) (fun _ _ _ _ _ => True) (fun _ UU_ oo_ UV_ => ∃ vv_ LL_, oo_ = .returned vv_ ∧ Q_rmChr_4_3 Z zC vF hvF x t kB c0 c1 c2 c3 h0 n0 vv_ UV_.heap LL_ ∧ FrameEnd UU_ oo_ UV_ LL_ (⟨3, 0, 0, 40⟩ : Room).cells (⟨3, 0, 0, 40⟩ : Room).slots) := by
 refine MetFree.of_bodySF (plainFor_of_name own_pn_java_lang_String) hisR ?_
 intro p e s m args below meth c s₁ Bd hml0 hP hK
 obtain ⟨rfl, hZ, hh⟩ := hP
 have hx := Bd.exec
 have hby := Bd.bytes
 have hml : c.maxLocals = 2 := hml0
 have hown : s.vm.findClass "java/lang/String" = some m.cls := findClass_of_methodNamed Bd.named
 have hnm := (name_of_methodNamed Bd.named Bd.method).1
 have X0 : Stand p l e (⟨3, 0, 0, 40⟩ : Room) s m #[.ref x, .int 3] below meth c s₁ [] 0 0 := Stand.of_body Bd
 have e0 : s₁.heap = h0 := by rw [← hh, Bd.state]; rfl
 have N0 := Fr.nil n0
 have hn0 : Z.heap.size = n0 := O0.1
 have KT0 : Keep h0 h0 [] := Keep.refl _ _
 refine own_enter (Φ := fun oo_ UV_ => ∃ vv_ LL_, oo_ = .returned vv_ ∧ Q_rmChr_4_3 Z zC vF hvF x t kB c0 c1 c2 c3 h0 n0 vv_ UV_.heap LL_ ∧ FrameEnd s oo_ UV_ LL_ (⟨3, 0, 0, 40⟩ : Room).cells (⟨3, 0, 0, 40⟩ : Room).slots) (own_ef_rmChr_4_3 m x (3 : Int32)) ?_
 refine own_by (T' := s₁) (g' := (mkF m 1 #[.val (.ref x), .val (.int 3)] [.ref x])) (fun _ kt_ => XS.aloadN X0.here hx rfl (hb hby own_d13_0) rfl rfl kt_) ?_
 obtain ⟨cq1, kq1, q1a, q1b, q1c⟩ := isOf hZ e0 E_x
 obtain ⟨_, _, ⟨T1, L1, k1, n1⟩, -, X1, ⟨Lc1, hQ1, l1, y1, z1⟩, st1⟩ := X0.virtualBack hx (y := (⟨"java/lang/String", "isLatin1", "()Z"⟩ : MethodName)) (z := (⟨"java/lang/String", "isLatin1", "()Z"⟩ : MethodName)) hown (mvT hZ (ww hw 62 rfl)) (mvT hZ (ww hw 63 rfl)) (notFace_of_selects (args := #[]) (mvT hZ (ww hw 65 rfl))) (mvT hZ (ww hw 65 rfl)) (mvT hZ (ww hw 64 rfl)) (by decide) (backOf (W := 0) (rmLat l Z a0 hw [] zC vF hvF GS x h0 n0 (by omega) O0 Fc) hZ (ww hw 66 rfl) (ww hw 9 rfl) (by decide) (by decide)) q1a q1c (g := (mkF m 1 #[.val (.ref x), .val (.int 3)] [.ref x])) rfl (by rw [hml]; rfl) (Steps.refl _) (argsL := []) (rest := []) (lenOf own_pd_8 rfl) rfl (by show 2 * 0 + _ ≤ _; exact Nat.le_of_eq rfl) (hb hby own_d13_1) (fun _ _ => ⟨rfl, e0, (by decide : 0 + 0 ≤ _), (by decide : 0 + 0 ≤ _)⟩)
 dsimp only [Pt.U, Pt.locs, Pt.cells, Pt.slots] at X1 l1 y1 z1 st1 hQ1
 subst l1 y1 z1
 obtain ⟨rfl, N1q, e1⟩ := hQ1
 have N2 := Fr.app N0 N1q
 refine own_by (T' := T1) (g' := (mkF m 4 #[.val (.ref x), .val (.int 3)] [.int 1])) (fun _ kt_ => st1.trans kt_) ?_
 refine own_by (T' := T1) (g' := (mkF m 7 #[.val (.ref x), .val (.int 3)] [])) (fun _ kt_ => XS.ifNo X1.here hx rfl (hb hby own_d13_4) rfl (XT.i0_eq_f (by decide)) kt_) ?_
 refine own_by (T' := T1) (g' := (mkF m 8 #[.val (.ref x), .val (.int 3)] [.ref x])) (fun _ kt_ => XS.aloadN X1.here hx rfl (hb hby own_d13_7) rfl rfl kt_) ?_
 obtain ⟨T3, X3, e3, st3⟩ := getF X1 hx hZ hown (host := "") (Or.inl (ww hw 27 rfl)) Via.refl e1 Fv (g := (mkF m 8 #[.val (.ref x), .val (.int 3)] [.ref x])) rfl rfl (hb hby own_d13_8)
 refine own_by (T' := T3) (g' := (mkF m 11 #[.val (.ref x), .val (.int 3)] [.ref t])) st3 ?_
 refine own_by (T' := T3) (g' := (mkF m 12 #[.val (.ref x), .val (.int 3)] [.int 3, .ref t])) (fun _ kt_ => XS.iloadN X3.here hx rfl (hb hby own_d13_11) rfl kt_) ?_
 obtain ⟨_, _, ⟨T4, L4, k4, n4⟩, -, X4, ⟨Lc4, hQ4, l4, y4, z4⟩, st4⟩ := Jvm.LawKit.callS X3 hx (y := (⟨"java/lang/StringLatin1", "charAt", "([BI)C"⟩ : MethodName)) hown (mvT hZ (ww hw 67 rfl)) (mvT hZ (ww hw 68 rfl)) (mvT hZ (ww hw 69 rfl)) (mvT hZ (ww hw 70 rfl)) (by decide) (backOf (W := 0) (rmLch_4_3 l Z a0 hw [] zC vF hvF GS t kB c0.toInt8.toInt32 c1.toInt8.toInt32 c2.toInt8.toInt32 c3.toInt8.toInt32 h0 n0 (by omega) O0 Vt) hZ (ww hw 70 rfl) (ww hw 69 rfl) (by decide) (by decide)) (g := (mkF m 12 #[.val (.ref x), .val (.int 3)] [.int 3, .ref t])) rfl (by rw [hml]; rfl) (argsL := [.ref t, .int 3]) (rest := []) (lenOf own_pd_9 rfl) rfl (by show 2 * 0 + _ ≤ _; exact Nat.le_of_eq rfl) (hb hby own_d13_12) (fun _ _ => ⟨rfl, e3, (by decide : 0 + 0 ≤ _), (by decide : 0 + 0 ≤ _)⟩)
 dsimp only [Pt.U, Pt.locs, Pt.cells, Pt.slots] at X4 l4 y4 z4 st4 hQ4
 subst l4 y4 z4
 obtain ⟨rfl, N4q, e4⟩ := hQ4
 have N5 := Fr.app N2 N4q
 refine own_by (T' := T4) (g' := (mkF m 15 #[.val (.ref x), .val (.int 3)] [(.int ((c3.toInt8.toInt32 &&& (255 : Int32)).toUInt32.toUInt16.toUInt32.toInt32))])) st4 ?_
 have hn6 : nar .char ((c3.toInt8.toInt32 &&& (255 : Int32)).toUInt32.toUInt16.toUInt32.toInt32) = ((c3.toInt8.toInt32 &&& (255 : Int32)).toUInt32.toUInt16.toUInt32.toInt32) := (own_narC _)
 have hr7 : ((c3.toInt8.toInt32 &&& (255 : Int32)).toUInt32.toUInt16.toUInt32.toInt32) = c3 := own_chr okc
 obtain ⟨fs8, hr8, hrun8, hended8, hW8, hsame8⟩ := X4.leave (v := some (.int (nar .char ((c3.toInt8.toInt32 &&& (255 : Int32)).toUInt32.toUInt16.toUInt32.toInt32)))) (fun h => by rw [Bd.returns] at h; cases h)
 refine ⟨_, _, retN X4 hx (t := .char) Bd.returns (by simp) (hb hby own_d13_15) hr8, hrun8, hended8, _, _, rfl, ?_, ⟨_, rfl⟩, hW8, hsame8.mono (by decide) (by decide)⟩
 show Q_rmChr_4_3 Z zC vF hvF x t kB c0 c1 c2 c3 h0 n0 _ T4.heap _
 exact ⟨(congrArg (fun z => some (Value.int z)) (hn6.trans hr7)), N5, e4⟩
theorem own_pd_10 : parseMethodDescriptor "()I" = some ⟨[], some .int⟩ := by decide +kernel
theorem own_pd_11 : parseMethodDescriptor "(I)C" = some ⟨[.int], some .char⟩ := by decide +kernel
theorem own_d6_0 : decode prog_21_method_5_code 0 = .ok (.iload_n 1, 1) := by decide +kernel
theorem own_d6_1 : decode prog_21_method_5_code 1 = .ok (.istore_n 2, 1) := by decide +kernel
theorem own_d6_2 : decode prog_21_method_5_code 2 = .ok (.iload_n 2, 1) := by decide +kernel
theorem own_d6_3 : decode prog_21_method_5_code 3 = .ok (.aload_n 0, 1) := by decide +kernel
theorem own_d6_4 : decode prog_21_method_5_code 4 = .ok (.invokevirtual 40, 3) := by decide +kernel
theorem own_d6_7 : decode prog_21_method_5_code 7 = .ok (.if_icmp .ge 29, 3) := by decide +kernel
theorem own_d6_10 : decode prog_21_method_5_code 10 = .ok (.aload_n 0, 1) := by decide +kernel
theorem own_d6_11 : decode prog_21_method_5_code 11 = .ok (.iload_n 2, 1) := by decide +kernel
theorem own_d6_12 : decode prog_21_method_5_code 12 = .ok (.invokevirtual 45, 3) := by decide +kernel
theorem own_d6_15 : decode prog_21_method_5_code 15 = .ok (.bipush 48, 2) := by decide +kernel
theorem own_d6_17 : decode prog_21_method_5_code 17 = .ok (.if_icmp .lt 19, 3) := by decide +kernel
theorem own_d6_20 : decode prog_21_method_5_code 20 = .ok (.aload_n 0, 1) := by decide +kernel
theorem own_d6_21 : decode prog_21_method_5_code 21 = .ok (.iload_n 2, 1) := by decide +kernel
theorem own_d6_22 : decode prog_21_method_5_code 22 = .ok (.invokevirtual 45, 3) := by decide +kernel
theorem own_d6_25 : decode prog_21_method_5_code 25 = .ok (.bipush 57, 2) := by decide +kernel
theorem own_d6_27 : decode prog_21_method_5_code 27 = .ok (.if_icmp .gt 9, 3) := by decide +kernel
theorem own_d6_30 : decode prog_21_method_5_code 30 = .ok (.iinc 2 1, 3) := by decide +kernel
theorem own_d6_33 : decode prog_21_method_5_code 33 = .ok (.goto (-31), 3) := by decide +kernel
theorem own_d6_36 : decode prog_21_method_5_code 36 = .ok (.iload_n 2, 1) := by decide +kernel
theorem own_d6_37 : decode prog_21_method_5_code 37 = .ok (.iload_n 1, 1) := by decide +kernel
theorem own_d6_38 : decode prog_21_method_5_code 38 = .ok (.isub, 1) := by decide +kernel
theorem own_d6_39 : decode prog_21_method_5_code 39 = .ok (.ireturn, 1) := by decide +kernel
theorem own_pn_com_example_vestledger_vestledger_journal_JournalDecimals : plainName "com/example/vestledger/vestledger/journal/JournalDecimals" = true := by first | (simp [plainName, overriddenIn]; done) | decide +kernel
theorem own_ef_rmD_4_0 (m : MethodId) (x0 : Addr) (x1 : Int32) : entryFrame m #[.ref x0, .int x1] 3 = mkF m 0 #[.val (.ref x0), .val (.int x1), .unset] [] := by first | (simp [entryFrame, mkF, argsToLocals, Value.category]; done) | rfl
def Q_rmD_4_0 (Z : State) (zC : Int32) (vF : Value) (hvF : vF.isRef = true) (x : Addr) (t : Addr) (kB : ClassId) (c0 : Int32) (c1 : Int32) (c2 : Int32) (c3 : Int32) (h0 : Heap) (n0 : Nat) (vv_ : Option Value) (hh_ : Heap) (LL_ : List Loc) : Prop := vv_ = some (.int (if c0 < (48 : Int32) then (0 : Int32) else (if (57 : Int32) < c0 then (0 : Int32) else (if c1 < (48 : Int32) then (1 : Int32) else (if (57 : Int32) < c1 then (1 : Int32) else (if c2 < (48 : Int32) then (2 : Int32) else (if (57 : Int32) < c2 then (2 : Int32) else (if c3 < (48 : Int32) then (3 : Int32) else (if (57 : Int32) < c3 then (3 : Int32) else (4 : Int32)))))))))) ∧ Fr n0 LL_ ∧ hh_ = h0
set_option maxRecDepth 65536 in
set_option maxHeartbeats 40000000 in
theorem rmD_4_0 (l : Launch) (Z : State) (a0 : Array Value) (hw : ∀ d ∈ tables_1, d.before a0 Z = true) (ws : List Jvm.Cond) (zC : Int32) (vF : Value) (hvF : vF.isRef = true) (GS : Glob Z zC vF hvF) (x : Addr) (t : Addr) (kB : ClassId) (c0 : Int32) (c1 : Int32) (c2 : Int32) (c3 : Int32) (h0 : Heap) (n0 : Nat) (Z0 : n0 ≤ h0.size) (O0 : Old Z n0 h0) (E_x : Exa Z h0 x "java/lang/String") (Fv : Fld Z h0 x "java/lang/String" "value" "[B" (.ref t)) (Fc : Fld Z h0 x "java/lang/String" "coder" "B" (.int 0)) (Vt : Arv Z h0 t kB .byte (4 : Int32) [(.int c0.toInt8.toInt32), (.int c1.toInt8.toInt32), (.int c2.toInt8.toInt32), (.int c3.toInt8.toInt32)] (.int 0)) (ok0 : okF c0) (ok1 : okF c1) (ok2 : okF c2) (ok3 : okF c3) :
  MetFree l (⟨"com/example/vestledger/vestledger/journal/JournalDecimals", "digitsFrom", "(Ljava/lang/String;I)I"⟩ : MethodName) (head1 (Jvm.Cond.code (⟨"com/example/vestledger/vestledger/journal/JournalDecimals", "digitsFrom", "(Ljava/lang/String;I)I"⟩ : MethodName) prog_21_method_5_code 3 (some .int) :: ws) (⟨4, 0, 0, 53⟩ : Room)) (fun aa_ UU_ => aa_ = #[.ref x, .int 0] ∧ Z.Warmed39 UU_.vm ∧ UU_.heap = h0) (fun _ _ _ _ _ => True) (fun _ UU_ oo_ UV_ => ∃ vv_ LL_, oo_ = .returned vv_ ∧ Q_rmD_4_0 Z zC vF hvF x t kB c0 c1 c2 c3 h0 n0 vv_ UV_.heap LL_ ∧ FrameEnd UU_ oo_ UV_ LL_ (⟨4, 0, 0, 53⟩ : Room).cells (⟨4, 0, 0, 53⟩ : Room).slots) := by
 refine MetFree.of_bodySF (plainFor_of_name own_pn_com_example_vestledger_vestledger_journal_JournalDecimals) hisR ?_
 intro p e s m args below meth c s₁ Bd hml0 hP hK
 obtain ⟨rfl, hZ, hh⟩ := hP
 have hx := Bd.exec
 have hby := Bd.bytes
 have hml : c.maxLocals = 3 := hml0
 have hown : s.vm.findClass "com/example/vestledger/vestledger/journal/JournalDecimals" = some m.cls := findClass_of_methodNamed Bd.named
 have hnm := (name_of_methodNamed Bd.named Bd.method).1
 have X0 : Stand p l e (⟨4, 0, 0, 53⟩ : Room) s m #[.ref x, .int 0] below meth c s₁ [] 0 0 := Stand.of_body Bd
 have e0 : s₁.heap = h0 := by rw [← hh, Bd.state]; rfl
 have N0 := Fr.nil n0
 have hn0 : Z.heap.size = n0 := O0.1
 have KT0 : Keep h0 h0 [] := Keep.refl _ _
 refine own_enter (Φ := fun oo_ UV_ => ∃ vv_ LL_, oo_ = .returned vv_ ∧ Q_rmD_4_0 Z zC vF hvF x t kB c0 c1 c2 c3 h0 n0 vv_ UV_.heap LL_ ∧ FrameEnd s oo_ UV_ LL_ (⟨4, 0, 0, 53⟩ : Room).cells (⟨4, 0, 0, 53⟩ : Room).slots) (own_ef_rmD_4_0 m x (0 : Int32)) ?_
 refine own_by (T' := s₁) (g' := (mkF m 1 #[.val (.ref x), .val (.int 0), .unset] [.int 0])) (fun _ kt_ => XS.iloadN X0.here hx rfl (hb hby own_d6_0) rfl kt_) ?_
 refine own_by (T' := s₁) (g' := (mkF m 2 #[.val (.ref x), .val (.int 0), .val (.int 0)] [])) (fun _ kt_ => XS.istoreN X0.here hx rfl (hb hby own_d6_1) rfl (l' := #[.val (.ref x), .val (.int 0), .val (.int 0)]) rfl kt_) ?_
 refine own_by (T' := s₁) (g' := (mkF m 3 #[.val (.ref x), .val (.int 0), .val (.int 0)] [.int 0])) (fun _ kt_ => XS.iloadN X0.here hx rfl (hb hby own_d6_2) rfl kt_) ?_
 refine own_by (T' := s₁) (g' := (mkF m 4 #[.val (.ref x), .val (.int 0), .val (.int 0)] [.ref x, .int 0])) (fun _ kt_ => XS.aloadN X0.here hx rfl (hb hby own_d6_3) rfl rfl kt_) ?_
 obtain ⟨cq1, kq1, q1a, q1b, q1c⟩ := isOf hZ e0 E_x
 obtain ⟨_, _, ⟨T1, L1, k1, n1⟩, -, X1, ⟨Lc1, hQ1, l1, y1, z1⟩, st1⟩ := X0.virtualBack hx (y := (⟨"java/lang/String", "length", "()I"⟩ : MethodName)) (z := (⟨"java/lang/String", "length", "()I"⟩ : MethodName)) hown (mvT hZ (ww hw 33 rfl)) (mvT hZ (ww hw 34 rfl)) (notFace_of_selects (args := #[]) (mvT hZ (ww hw 36 rfl))) (mvT hZ (ww hw 36 rfl)) (mvT hZ (ww hw 35 rfl)) (by decide) (backOf (W := 1) (rmLen_4 l Z a0 hw [] zC vF hvF GS x t kB c0 c1 c2 c3 h0 n0 (by omega) O0 E_x Fv Fc Vt) hZ (ww hw 37 rfl) (ww hw 9 rfl) (by decide) (by decide)) q1a q1c (g := (mkF m 4 #[.val (.ref x), .val (.int 0), .val (.int 0)] [.ref x, .int 0])) rfl (by rw [hml]; rfl) (Steps.refl _) (argsL := []) (rest := [.int 0]) (lenOf own_pd_10 rfl) rfl (by show 2 * 0 + _ ≤ _; exact Nat.le_of_eq rfl) (hb hby own_d6_4) (fun _ _ => ⟨rfl, e0, (by decide : 0 + 0 ≤ _), (by decide : 0 + 0 ≤ _)⟩)
 dsimp only [Pt.U, Pt.locs, Pt.cells, Pt.slots] at X1 l1 y1 z1 st1 hQ1
 subst l1 y1 z1
 obtain ⟨rfl, N1q, e1⟩ := hQ1
 have N2 := Fr.app N0 N1q
 refine own_by (T' := T1) (g' := (mkF m 7 #[.val (.ref x), .val (.int 0), .val (.int 0)] [.int 4, .int 0])) (fun _ kt_ => st1.trans kt_) ?_
 refine own_by (T' := T1) (g' := (mkF m 10 #[.val (.ref x), .val (.int 0), .val (.int 0)] [])) (fun _ kt_ => XS.icmpNo X1.here hx rfl (hb hby own_d6_7) rfl (XT.ii_ge_f (by decide)) kt_) ?_
 refine own_by (T' := T1) (g' := (mkF m 11 #[.val (.ref x), .val (.int 0), .val (.int 0)] [.ref x])) (fun _ kt_ => XS.aloadN X1.here hx rfl (hb hby own_d6_10) rfl rfl kt_) ?_
 refine own_by (T' := T1) (g' := (mkF m 12 #[.val (.ref x), .val (.int 0), .val (.int 0)] [.int 0, .ref x])) (fun _ kt_ => XS.iloadN X1.here hx rfl (hb hby own_d6_11) rfl kt_) ?_
 obtain ⟨cq3, kq3, q3a, q3b, q3c⟩ := isOf hZ e1 E_x
 obtain ⟨_, _, ⟨T3, L3, k3, n3⟩, -, X3, ⟨Lc3, hQ3, l3, y3, z3⟩, st3⟩ := X1.virtualBack hx (y := (⟨"java/lang/String", "charAt", "(I)C"⟩ : MethodName)) (z := (⟨"java/lang/String", "charAt", "(I)C"⟩ : MethodName)) hown (mvT hZ (ww hw 57 rfl)) (mvT hZ (ww hw 58 rfl)) (notFace_of_selects (args := #[]) (mvT hZ (ww hw 60 rfl))) (mvT hZ (ww hw 60 rfl)) (mvT hZ (ww hw 59 rfl)) (by decide) (backOf (W := 0) (rmChr_4_0 l Z a0 hw [] zC vF hvF GS x t kB c0 c1 c2 c3 h0 n0 (by omega) O0 E_x Fv Fc Vt ok0) hZ (ww hw 61 rfl) (ww hw 9 rfl) (by decide) (by decide)) q3a q3c (g := (mkF m 12 #[.val (.ref x), .val (.int 0), .val (.int 0)] [.int 0, .ref x])) rfl (by rw [hml]; rfl) (Steps.refl _) (argsL := [.int 0]) (rest := []) (lenOf own_pd_11 rfl) rfl (by show 2 * 0 + _ ≤ _; exact Nat.le_of_eq rfl) (hb hby own_d6_12) (fun _ _ => ⟨rfl, e1, (by decide : 0 + 0 ≤ _), (by decide : 0 + 0 ≤ _)⟩)
 dsimp only [Pt.U, Pt.locs, Pt.cells, Pt.slots] at X3 l3 y3 z3 st3 hQ3
 subst l3 y3 z3
 obtain ⟨rfl, N3q, e3⟩ := hQ3
 have N4 := Fr.app N2 N3q
 refine own_by (T' := T3) (g' := (mkF m 15 #[.val (.ref x), .val (.int 0), .val (.int 0)] [.int c0])) (fun _ kt_ => st3.trans kt_) ?_
 refine own_by (T' := T3) (g' := (mkF m 17 #[.val (.ref x), .val (.int 0), .val (.int 0)] [.int 48, .int c0])) (fun _ kt_ => XS.bipush X3.here hx rfl (hb hby own_d6_15) kt_) ?_
 by_cases hc5 : c0 < (48 : Int32)
 ·refine own_by (T' := T3) (g' := (mkF m 36 #[.val (.ref x), .val (.int 0), .val (.int 0)] [])) (fun _ kt_ => XS.icmpYes X3.here hx rfl (pc0 := 17) (pc' := 36) rfl (hb hby own_d6_17) rfl (XT.ii_lt_t hc5) (by decide) (by decide) kt_) ?_
  refine own_by (T' := T3) (g' := (mkF m 37 #[.val (.ref x), .val (.int 0), .val (.int 0)] [.int 0])) (fun _ kt_ => XS.iloadN X3.here hx rfl (hb hby own_d6_36) rfl kt_) ?_
  refine own_by (T' := T3) (g' := (mkF m 38 #[.val (.ref x), .val (.int 0), .val (.int 0)] [.int 0, .int 0])) (fun _ kt_ => XS.iloadN X3.here hx rfl (hb hby own_d6_37) rfl kt_) ?_
  refine own_by (T' := T3) (g' := (mkF m 39 #[.val (.ref x), .val (.int 0), .val (.int 0)] [(.int ((0 : Int32) - (0 : Int32)))])) (fun _ kt_ => XS.isub X3.here hx rfl (hb hby own_d6_38) rfl kt_) ?_
  rw [show ((0 : Int32) - (0 : Int32)) = (0 : Int32) from by decide]
  have hr6 : (0 : Int32) = (if c0 < (48 : Int32) then (0 : Int32) else (if (57 : Int32) < c0 then (0 : Int32) else (if c1 < (48 : Int32) then (1 : Int32) else (if (57 : Int32) < c1 then (1 : Int32) else (if c2 < (48 : Int32) then (2 : Int32) else (if (57 : Int32) < c2 then (2 : Int32) else (if c3 < (48 : Int32) then (3 : Int32) else (if (57 : Int32) < c3 then (3 : Int32) else (4 : Int32))))))))) := by simp [hc5]
  obtain ⟨fs7, hr7, hrun7, hended7, hW7, hsame7⟩ := X3.leave (v := some (.int 0)) (fun h => by rw [Bd.returns] at h; cases h)
  refine ⟨_, _, retOut X3 hx (t := .int) Bd.returns rfl (Or.inl ⟨rfl, Or.inl rfl, _, rfl⟩) (hb hby own_d6_39) hr7, hrun7, hended7, _, _, rfl, ?_, ⟨_, rfl⟩, hW7, hsame7.mono (by decide) (by decide)⟩
  show Q_rmD_4_0 Z zC vF hvF x t kB c0 c1 c2 c3 h0 n0 _ T3.heap _
  exact ⟨(congrArg (fun z => some (Value.int z)) hr6), N4, e3⟩
 ·refine own_by (T' := T3) (g' := (mkF m 20 #[.val (.ref x), .val (.int 0), .val (.int 0)] [])) (fun _ kt_ => XS.icmpNo X3.here hx rfl (hb hby own_d6_17) rfl (XT.ii_lt_f hc5) kt_) ?_
  refine own_by (T' := T3) (g' := (mkF m 21 #[.val (.ref x), .val (.int 0), .val (.int 0)] [.ref x])) (fun _ kt_ => XS.aloadN X3.here hx rfl (hb hby own_d6_20) rfl rfl kt_) ?_
  refine own_by (T' := T3) (g' := (mkF m 22 #[.val (.ref x), .val (.int 0), .val (.int 0)] [.int 0, .ref x])) (fun _ kt_ => XS.iloadN X3.here hx rfl (hb hby own_d6_21) rfl kt_) ?_
  obtain ⟨cq8, kq8, q8a, q8b, q8c⟩ := isOf hZ e3 E_x
  obtain ⟨_, _, ⟨T8, L8, k8, n8⟩, -, X8, ⟨Lc8, hQ8, l8, y8, z8⟩, st8⟩ := X3.virtualBack hx (y := (⟨"java/lang/String", "charAt", "(I)C"⟩ : MethodName)) (z := (⟨"java/lang/String", "charAt", "(I)C"⟩ : MethodName)) hown (mvT hZ (ww hw 57 rfl)) (mvT hZ (ww hw 58 rfl)) (notFace_of_selects (args := #[]) (mvT hZ (ww hw 60 rfl))) (mvT hZ (ww hw 60 rfl)) (mvT hZ (ww hw 59 rfl)) (by decide) (backOf (W := 0) (rmChr_4_0 l Z a0 hw [] zC vF hvF GS x t kB c0 c1 c2 c3 h0 n0 (by omega) O0 E_x Fv Fc Vt ok0) hZ (ww hw 61 rfl) (ww hw 9 rfl) (by decide) (by decide)) q8a q8c (g := (mkF m 22 #[.val (.ref x), .val (.int 0), .val (.int 0)] [.int 0, .ref x])) rfl (by rw [hml]; rfl) (Steps.refl _) (argsL := [.int 0]) (rest := []) (lenOf own_pd_11 rfl) rfl (by show 2 * 0 + _ ≤ _; exact Nat.le_of_eq rfl) (hb hby own_d6_22) (fun _ _ => ⟨rfl, e3, (by decide : 0 + 0 ≤ _), (by decide : 0 + 0 ≤ _)⟩)
  dsimp only [Pt.U, Pt.locs, Pt.cells, Pt.slots] at X8 l8 y8 z8 st8 hQ8
  subst l8 y8 z8
  obtain ⟨rfl, N8q, e8⟩ := hQ8
  have N9 := Fr.app N4 N8q
  refine own_by (T' := T8) (g' := (mkF m 25 #[.val (.ref x), .val (.int 0), .val (.int 0)] [.int c0])) (fun _ kt_ => st8.trans kt_) ?_
  refine own_by (T' := T8) (g' := (mkF m 27 #[.val (.ref x), .val (.int 0), .val (.int 0)] [.int 57, .int c0])) (fun _ kt_ => XS.bipush X8.here hx rfl (hb hby own_d6_25) kt_) ?_
  by_cases hc10 : (57 : Int32) < c0
  ·refine own_by (T' := T8) (g' := (mkF m 36 #[.val (.ref x), .val (.int 0), .val (.int 0)] [])) (fun _ kt_ => XS.icmpYes X8.here hx rfl (pc0 := 27) (pc' := 36) rfl (hb hby own_d6_27) rfl (XT.ii_gt_t hc10) (by decide) (by decide) kt_) ?_
   refine own_by (T' := T8) (g' := (mkF m 37 #[.val (.ref x), .val (.int 0), .val (.int 0)] [.int 0])) (fun _ kt_ => XS.iloadN X8.here hx rfl (hb hby own_d6_36) rfl kt_) ?_
   refine own_by (T' := T8) (g' := (mkF m 38 #[.val (.ref x), .val (.int 0), .val (.int 0)] [.int 0, .int 0])) (fun _ kt_ => XS.iloadN X8.here hx rfl (hb hby own_d6_37) rfl kt_) ?_
   refine own_by (T' := T8) (g' := (mkF m 39 #[.val (.ref x), .val (.int 0), .val (.int 0)] [(.int ((0 : Int32) - (0 : Int32)))])) (fun _ kt_ => XS.isub X8.here hx rfl (hb hby own_d6_38) rfl kt_) ?_
   rw [show ((0 : Int32) - (0 : Int32)) = (0 : Int32) from by decide]
   have hr11 : (0 : Int32) = (if c0 < (48 : Int32) then (0 : Int32) else (if (57 : Int32) < c0 then (0 : Int32) else (if c1 < (48 : Int32) then (1 : Int32) else (if (57 : Int32) < c1 then (1 : Int32) else (if c2 < (48 : Int32) then (2 : Int32) else (if (57 : Int32) < c2 then (2 : Int32) else (if c3 < (48 : Int32) then (3 : Int32) else (if (57 : Int32) < c3 then (3 : Int32) else (4 : Int32))))))))) := by simp [hc5, hc10]
   obtain ⟨fs12, hr12, hrun12, hended12, hW12, hsame12⟩ := X8.leave (v := some (.int 0)) (fun h => by rw [Bd.returns] at h; cases h)
   refine ⟨_, _, retOut X8 hx (t := .int) Bd.returns rfl (Or.inl ⟨rfl, Or.inl rfl, _, rfl⟩) (hb hby own_d6_39) hr12, hrun12, hended12, _, _, rfl, ?_, ⟨_, rfl⟩, hW12, hsame12.mono (by decide) (by decide)⟩
   show Q_rmD_4_0 Z zC vF hvF x t kB c0 c1 c2 c3 h0 n0 _ T8.heap _
   exact ⟨(congrArg (fun z => some (Value.int z)) hr11), N9, e8⟩
  ·refine own_by (T' := T8) (g' := (mkF m 30 #[.val (.ref x), .val (.int 0), .val (.int 0)] [])) (fun _ kt_ => XS.icmpNo X8.here hx rfl (hb hby own_d6_27) rfl (XT.ii_gt_f hc10) kt_) ?_
   refine own_by (T' := T8) (g' := (mkF m 33 #[.val (.ref x), .val (.int 0), .val (.int ((0 : Int32) + (1 : Int32)))] [])) (fun _ kt_ => XS.iinc X8.here hx rfl (hb hby own_d6_30) rfl (l' := #[.val (.ref x), .val (.int 0), .val (.int ((0 : Int32) + (1 : Int32)))]) rfl kt_) ?_
   rw [show ((0 : Int32) + (1 : Int32)) = (1 : Int32) from by decide]
   refine own_by (T' := T8) (g' := (mkF m 2 #[.val (.ref x), .val (.int 0), .val (.int 1)] [])) (fun _ kt_ => XS.goto X8.here hx rfl (pc0 := 33) (pc' := 2) rfl (hb hby own_d6_33) (by decide) (by decide) kt_) ?_
   refine own_by (T' := T8) (g' := (mkF m 3 #[.val (.ref x), .val (.int 0), .val (.int 1)] [.int 1])) (fun _ kt_ => XS.iloadN X8.here hx rfl (hb hby own_d6_2) rfl kt_) ?_
   refine own_by (T' := T8) (g' := (mkF m 4 #[.val (.ref x), .val (.int 0), .val (.int 1)] [.ref x, .int 1])) (fun _ kt_ => XS.aloadN X8.here hx rfl (hb hby own_d6_3) rfl rfl kt_) ?_
   obtain ⟨cq13, kq13, q13a, q13b, q13c⟩ := isOf hZ e8 E_x
   obtain ⟨_, _, ⟨T13, L13, k13, n13⟩, -, X13, ⟨Lc13, hQ13, l13, y13, z13⟩, st13⟩ := X8.virtualBack hx (y := (⟨"java/lang/String", "length", "()I"⟩ : MethodName)) (z := (⟨"java/lang/String", "length", "()I"⟩ : MethodName)) hown (mvT hZ (ww hw 33 rfl)) (mvT hZ (ww hw 34 rfl)) (notFace_of_selects (args := #[]) (mvT hZ (ww hw 36 rfl))) (mvT hZ (ww hw 36 rfl)) (mvT hZ (ww hw 35 rfl)) (by decide) (backOf (W := 1) (rmLen_4 l Z a0 hw [] zC vF hvF GS x t kB c0 c1 c2 c3 h0 n0 (by omega) O0 E_x Fv Fc Vt) hZ (ww hw 37 rfl) (ww hw 9 rfl) (by decide) (by decide)) q13a q13c (g := (mkF m 4 #[.val (.ref x), .val (.int 0), .val (.int 1)] [.ref x, .int 1])) rfl (by rw [hml]; rfl) (Steps.refl _) (argsL := []) (rest := [.int 1]) (lenOf own_pd_10 rfl) rfl (by show 2 * 0 + _ ≤ _; exact Nat.le_of_eq rfl) (hb hby own_d6_4) (fun _ _ => ⟨rfl, e8, (by decide : 0 + 0 ≤ _), (by decide : 0 + 0 ≤ _)⟩)
   dsimp only [Pt.U, Pt.locs, Pt.cells, Pt.slots] at X13 l13 y13 z13 st13 hQ13
   subst l13 y13 z13
   obtain ⟨rfl, N13q, e13⟩ := hQ13
   have N14 := Fr.app N9 N13q
   refine own_by (T' := T13) (g' := (mkF m 7 #[.val (.ref x), .val (.int 0), .val (.int 1)] [.int 4, .int 1])) (fun _ kt_ => st13.trans kt_) ?_
   refine own_by (T' := T13) (g' := (mkF m 10 #[.val (.ref x), .val (.int 0), .val (.int 1)] [])) (fun _ kt_ => XS.icmpNo X13.here hx rfl (hb hby own_d6_7) rfl (XT.ii_ge_f (by decide)) kt_) ?_
   refine own_by (T' := T13) (g' := (mkF m 11 #[.val (.ref x), .val (.int 0), .val (.int 1)] [.ref x])) (fun _ kt_ => XS.aloadN X13.here hx rfl (hb hby own_d6_10) rfl rfl kt_) ?_
   refine own_by (T' := T13) (g' := (mkF m 12 #[.val (.ref x), .val (.int 0), .val (.int 1)] [.int 1, .ref x])) (fun _ kt_ => XS.iloadN X13.here hx rfl (hb hby own_d6_11) rfl kt_) ?_
   obtain ⟨cq15, kq15, q15a, q15b, q15c⟩ := isOf hZ e13 E_x
   obtain ⟨_, _, ⟨T15, L15, k15, n15⟩, -, X15, ⟨Lc15, hQ15, l15, y15, z15⟩, st15⟩ := X13.virtualBack hx (y := (⟨"java/lang/String", "charAt", "(I)C"⟩ : MethodName)) (z := (⟨"java/lang/String", "charAt", "(I)C"⟩ : MethodName)) hown (mvT hZ (ww hw 57 rfl)) (mvT hZ (ww hw 58 rfl)) (notFace_of_selects (args := #[]) (mvT hZ (ww hw 60 rfl))) (mvT hZ (ww hw 60 rfl)) (mvT hZ (ww hw 59 rfl)) (by decide) (backOf (W := 0) (rmChr_4_1 l Z a0 hw [] zC vF hvF GS x t kB c0 c1 c2 c3 h0 n0 (by omega) O0 E_x Fv Fc Vt ok1) hZ (ww hw 61 rfl) (ww hw 9 rfl) (by decide) (by decide)) q15a q15c (g := (mkF m 12 #[.val (.ref x), .val (.int 0), .val (.int 1)] [.int 1, .ref x])) rfl (by rw [hml]; rfl) (Steps.refl _) (argsL := [.int 1]) (rest := []) (lenOf own_pd_11 rfl) rfl (by show 2 * 0 + _ ≤ _; exact Nat.le_of_eq rfl) (hb hby own_d6_12) (fun _ _ => ⟨rfl, e13, (by decide : 0 + 0 ≤ _), (by decide : 0 + 0 ≤ _)⟩)
   dsimp only [Pt.U, Pt.locs, Pt.cells, Pt.slots] at X15 l15 y15 z15 st15 hQ15
   subst l15 y15 z15
   obtain ⟨rfl, N15q, e15⟩ := hQ15
   have N16 := Fr.app N14 N15q
   refine own_by (T' := T15) (g' := (mkF m 15 #[.val (.ref x), .val (.int 0), .val (.int 1)] [.int c1])) (fun _ kt_ => st15.trans kt_) ?_
   refine own_by (T' := T15) (g' := (mkF m 17 #[.val (.ref x), .val (.int 0), .val (.int 1)] [.int 48, .int c1])) (fun _ kt_ => XS.bipush X15.here hx rfl (hb hby own_d6_15) kt_) ?_
   by_cases hc17 : c1 < (48 : Int32)
   ·refine own_by (T' := T15) (g' := (mkF m 36 #[.val (.ref x), .val (.int 0), .val (.int 1)] [])) (fun _ kt_ => XS.icmpYes X15.here hx rfl (pc0 := 17) (pc' := 36) rfl (hb hby own_d6_17) rfl (XT.ii_lt_t hc17) (by decide) (by decide) kt_) ?_
    refine own_by (T' := T15) (g' := (mkF m 37 #[.val (.ref x), .val (.int 0), .val (.int 1)] [.int 1])) (fun _ kt_ => XS.iloadN X15.here hx rfl (hb hby own_d6_36) rfl kt_) ?_
    refine own_by (T' := T15) (g' := (mkF m 38 #[.val (.ref x), .val (.int 0), .val (.int 1)] [.int 0, .int 1])) (fun _ kt_ => XS.iloadN X15.here hx rfl (hb hby own_d6_37) rfl kt_) ?_
    refine own_by (T' := T15) (g' := (mkF m 39 #[.val (.ref x), .val (.int 0), .val (.int 1)] [(.int ((1 : Int32) - (0 : Int32)))])) (fun _ kt_ => XS.isub X15.here hx rfl (hb hby own_d6_38) rfl kt_) ?_
    rw [show ((1 : Int32) - (0 : Int32)) = (1 : Int32) from by decide]
    have hr18 : (1 : Int32) = (if c0 < (48 : Int32) then (0 : Int32) else (if (57 : Int32) < c0 then (0 : Int32) else (if c1 < (48 : Int32) then (1 : Int32) else (if (57 : Int32) < c1 then (1 : Int32) else (if c2 < (48 : Int32) then (2 : Int32) else (if (57 : Int32) < c2 then (2 : Int32) else (if c3 < (48 : Int32) then (3 : Int32) else (if (57 : Int32) < c3 then (3 : Int32) else (4 : Int32))))))))) := by simp [hc5, hc10, hc17]
    obtain ⟨fs19, hr19, hrun19, hended19, hW19, hsame19⟩ := X15.leave (v := some (.int 1)) (fun h => by rw [Bd.returns] at h; cases h)
    refine ⟨_, _, retOut X15 hx (t := .int) Bd.returns rfl (Or.inl ⟨rfl, Or.inl rfl, _, rfl⟩) (hb hby own_d6_39) hr19, hrun19, hended19, _, _, rfl, ?_, ⟨_, rfl⟩, hW19, hsame19.mono (by decide) (by decide)⟩
    show Q_rmD_4_0 Z zC vF hvF x t kB c0 c1 c2 c3 h0 n0 _ T15.heap _
    exact ⟨(congrArg (fun z => some (Value.int z)) hr18), N16, e15⟩
   ·refine own_by (T' := T15) (g' := (mkF m 20 #[.val (.ref x), .val (.int 0), .val (.int 1)] [])) (fun _ kt_ => XS.icmpNo X15.here hx rfl (hb hby own_d6_17) rfl (XT.ii_lt_f hc17) kt_) ?_
    refine own_by (T' := T15) (g' := (mkF m 21 #[.val (.ref x), .val (.int 0), .val (.int 1)] [.ref x])) (fun _ kt_ => XS.aloadN X15.here hx rfl (hb hby own_d6_20) rfl rfl kt_) ?_
    refine own_by (T' := T15) (g' := (mkF m 22 #[.val (.ref x), .val (.int 0), .val (.int 1)] [.int 1, .ref x])) (fun _ kt_ => XS.iloadN X15.here hx rfl (hb hby own_d6_21) rfl kt_) ?_
    obtain ⟨cq20, kq20, q20a, q20b, q20c⟩ := isOf hZ e15 E_x
    obtain ⟨_, _, ⟨T20, L20, k20, n20⟩, -, X20, ⟨Lc20, hQ20, l20, y20, z20⟩, st20⟩ := X15.virtualBack hx (y := (⟨"java/lang/String", "charAt", "(I)C"⟩ : MethodName)) (z := (⟨"java/lang/String", "charAt", "(I)C"⟩ : MethodName)) hown (mvT hZ (ww hw 57 rfl)) (mvT hZ (ww hw 58 rfl)) (notFace_of_selects (args := #[]) (mvT hZ (ww hw 60 rfl))) (mvT hZ (ww hw 60 rfl)) (mvT hZ (ww hw 59 rfl)) (by decide) (backOf (W := 0) (rmChr_4_1 l Z a0 hw [] zC vF hvF GS x t kB c0 c1 c2 c3 h0 n0 (by omega) O0 E_x Fv Fc Vt ok1) hZ (ww hw 61 rfl) (ww hw 9 rfl) (by decide) (by decide)) q20a q20c (g := (mkF m 22 #[.val (.ref x), .val (.int 0), .val (.int 1)] [.int 1, .ref x])) rfl (by rw [hml]; rfl) (Steps.refl _) (argsL := [.int 1]) (rest := []) (lenOf own_pd_11 rfl) rfl (by show 2 * 0 + _ ≤ _; exact Nat.le_of_eq rfl) (hb hby own_d6_22) (fun _ _ => ⟨rfl, e15, (by decide : 0 + 0 ≤ _), (by decide : 0 + 0 ≤ _)⟩)
    dsimp only [Pt.U, Pt.locs, Pt.cells, Pt.slots] at X20 l20 y20 z20 st20 hQ20
    subst l20 y20 z20
    obtain ⟨rfl, N20q, e20⟩ := hQ20
    have N21 := Fr.app N16 N20q
    refine own_by (T' := T20) (g' := (mkF m 25 #[.val (.ref x), .val (.int 0), .val (.int 1)] [.int c1])) (fun _ kt_ => st20.trans kt_) ?_
    refine own_by (T' := T20) (g' := (mkF m 27 #[.val (.ref x), .val (.int 0), .val (.int 1)] [.int 57, .int c1])) (fun _ kt_ => XS.bipush X20.here hx rfl (hb hby own_d6_25) kt_) ?_
    by_cases hc22 : (57 : Int32) < c1
    ·refine own_by (T' := T20) (g' := (mkF m 36 #[.val (.ref x), .val (.int 0), .val (.int 1)] [])) (fun _ kt_ => XS.icmpYes X20.here hx rfl (pc0 := 27) (pc' := 36) rfl (hb hby own_d6_27) rfl (XT.ii_gt_t hc22) (by decide) (by decide) kt_) ?_
     refine own_by (T' := T20) (g' := (mkF m 37 #[.val (.ref x), .val (.int 0), .val (.int 1)] [.int 1])) (fun _ kt_ => XS.iloadN X20.here hx rfl (hb hby own_d6_36) rfl kt_) ?_
     refine own_by (T' := T20) (g' := (mkF m 38 #[.val (.ref x), .val (.int 0), .val (.int 1)] [.int 0, .int 1])) (fun _ kt_ => XS.iloadN X20.here hx rfl (hb hby own_d6_37) rfl kt_) ?_
     refine own_by (T' := T20) (g' := (mkF m 39 #[.val (.ref x), .val (.int 0), .val (.int 1)] [(.int ((1 : Int32) - (0 : Int32)))])) (fun _ kt_ => XS.isub X20.here hx rfl (hb hby own_d6_38) rfl kt_) ?_
     rw [show ((1 : Int32) - (0 : Int32)) = (1 : Int32) from by decide]
     have hr23 : (1 : Int32) = (if c0 < (48 : Int32) then (0 : Int32) else (if (57 : Int32) < c0 then (0 : Int32) else (if c1 < (48 : Int32) then (1 : Int32) else (if (57 : Int32) < c1 then (1 : Int32) else (if c2 < (48 : Int32) then (2 : Int32) else (if (57 : Int32) < c2 then (2 : Int32) else (if c3 < (48 : Int32) then (3 : Int32) else (if (57 : Int32) < c3 then (3 : Int32) else (4 : Int32))))))))) := by simp [hc5, hc10, hc17, hc22]
     obtain ⟨fs24, hr24, hrun24, hended24, hW24, hsame24⟩ := X20.leave (v := some (.int 1)) (fun h => by rw [Bd.returns] at h; cases h)
     refine ⟨_, _, retOut X20 hx (t := .int) Bd.returns rfl (Or.inl ⟨rfl, Or.inl rfl, _, rfl⟩) (hb hby own_d6_39) hr24, hrun24, hended24, _, _, rfl, ?_, ⟨_, rfl⟩, hW24, hsame24.mono (by decide) (by decide)⟩
     show Q_rmD_4_0 Z zC vF hvF x t kB c0 c1 c2 c3 h0 n0 _ T20.heap _
     exact ⟨(congrArg (fun z => some (Value.int z)) hr23), N21, e20⟩
    ·refine own_by (T' := T20) (g' := (mkF m 30 #[.val (.ref x), .val (.int 0), .val (.int 1)] [])) (fun _ kt_ => XS.icmpNo X20.here hx rfl (hb hby own_d6_27) rfl (XT.ii_gt_f hc22) kt_) ?_
     refine own_by (T' := T20) (g' := (mkF m 33 #[.val (.ref x), .val (.int 0), .val (.int ((1 : Int32) + (1 : Int32)))] [])) (fun _ kt_ => XS.iinc X20.here hx rfl (hb hby own_d6_30) rfl (l' := #[.val (.ref x), .val (.int 0), .val (.int ((1 : Int32) + (1 : Int32)))]) rfl kt_) ?_
     rw [show ((1 : Int32) + (1 : Int32)) = (2 : Int32) from by decide]
     refine own_by (T' := T20) (g' := (mkF m 2 #[.val (.ref x), .val (.int 0), .val (.int 2)] [])) (fun _ kt_ => XS.goto X20.here hx rfl (pc0 := 33) (pc' := 2) rfl (hb hby own_d6_33) (by decide) (by decide) kt_) ?_
     refine own_by (T' := T20) (g' := (mkF m 3 #[.val (.ref x), .val (.int 0), .val (.int 2)] [.int 2])) (fun _ kt_ => XS.iloadN X20.here hx rfl (hb hby own_d6_2) rfl kt_) ?_
     refine own_by (T' := T20) (g' := (mkF m 4 #[.val (.ref x), .val (.int 0), .val (.int 2)] [.ref x, .int 2])) (fun _ kt_ => XS.aloadN X20.here hx rfl (hb hby own_d6_3) rfl rfl kt_) ?_
     obtain ⟨cq25, kq25, q25a, q25b, q25c⟩ := isOf hZ e20 E_x
     obtain ⟨_, _, ⟨T25, L25, k25, n25⟩, -, X25, ⟨Lc25, hQ25, l25, y25, z25⟩, st25⟩ := X20.virtualBack hx (y := (⟨"java/lang/String", "length", "()I"⟩ : MethodName)) (z := (⟨"java/lang/String", "length", "()I"⟩ : MethodName)) hown (mvT hZ (ww hw 33 rfl)) (mvT hZ (ww hw 34 rfl)) (notFace_of_selects (args := #[]) (mvT hZ (ww hw 36 rfl))) (mvT hZ (ww hw 36 rfl)) (mvT hZ (ww hw 35 rfl)) (by decide) (backOf (W := 1) (rmLen_4 l Z a0 hw [] zC vF hvF GS x t kB c0 c1 c2 c3 h0 n0 (by omega) O0 E_x Fv Fc Vt) hZ (ww hw 37 rfl) (ww hw 9 rfl) (by decide) (by decide)) q25a q25c (g := (mkF m 4 #[.val (.ref x), .val (.int 0), .val (.int 2)] [.ref x, .int 2])) rfl (by rw [hml]; rfl) (Steps.refl _) (argsL := []) (rest := [.int 2]) (lenOf own_pd_10 rfl) rfl (by show 2 * 0 + _ ≤ _; exact Nat.le_of_eq rfl) (hb hby own_d6_4) (fun _ _ => ⟨rfl, e20, (by decide : 0 + 0 ≤ _), (by decide : 0 + 0 ≤ _)⟩)
     dsimp only [Pt.U, Pt.locs, Pt.cells, Pt.slots] at X25 l25 y25 z25 st25 hQ25
     subst l25 y25 z25
     obtain ⟨rfl, N25q, e25⟩ := hQ25
     have N26 := Fr.app N21 N25q
     refine own_by (T' := T25) (g' := (mkF m 7 #[.val (.ref x), .val (.int 0), .val (.int 2)] [.int 4, .int 2])) (fun _ kt_ => st25.trans kt_) ?_
     refine own_by (T' := T25) (g' := (mkF m 10 #[.val (.ref x), .val (.int 0), .val (.int 2)] [])) (fun _ kt_ => XS.icmpNo X25.here hx rfl (hb hby own_d6_7) rfl (XT.ii_ge_f (by decide)) kt_) ?_
     refine own_by (T' := T25) (g' := (mkF m 11 #[.val (.ref x), .val (.int 0), .val (.int 2)] [.ref x])) (fun _ kt_ => XS.aloadN X25.here hx rfl (hb hby own_d6_10) rfl rfl kt_) ?_
     refine own_by (T' := T25) (g' := (mkF m 12 #[.val (.ref x), .val (.int 0), .val (.int 2)] [.int 2, .ref x])) (fun _ kt_ => XS.iloadN X25.here hx rfl (hb hby own_d6_11) rfl kt_) ?_
     obtain ⟨cq27, kq27, q27a, q27b, q27c⟩ := isOf hZ e25 E_x
     obtain ⟨_, _, ⟨T27, L27, k27, n27⟩, -, X27, ⟨Lc27, hQ27, l27, y27, z27⟩, st27⟩ := X25.virtualBack hx (y := (⟨"java/lang/String", "charAt", "(I)C"⟩ : MethodName)) (z := (⟨"java/lang/String", "charAt", "(I)C"⟩ : MethodName)) hown (mvT hZ (ww hw 57 rfl)) (mvT hZ (ww hw 58 rfl)) (notFace_of_selects (args := #[]) (mvT hZ (ww hw 60 rfl))) (mvT hZ (ww hw 60 rfl)) (mvT hZ (ww hw 59 rfl)) (by decide) (backOf (W := 0) (rmChr_4_2 l Z a0 hw [] zC vF hvF GS x t kB c0 c1 c2 c3 h0 n0 (by omega) O0 E_x Fv Fc Vt ok2) hZ (ww hw 61 rfl) (ww hw 9 rfl) (by decide) (by decide)) q27a q27c (g := (mkF m 12 #[.val (.ref x), .val (.int 0), .val (.int 2)] [.int 2, .ref x])) rfl (by rw [hml]; rfl) (Steps.refl _) (argsL := [.int 2]) (rest := []) (lenOf own_pd_11 rfl) rfl (by show 2 * 0 + _ ≤ _; exact Nat.le_of_eq rfl) (hb hby own_d6_12) (fun _ _ => ⟨rfl, e25, (by decide : 0 + 0 ≤ _), (by decide : 0 + 0 ≤ _)⟩)
     dsimp only [Pt.U, Pt.locs, Pt.cells, Pt.slots] at X27 l27 y27 z27 st27 hQ27
     subst l27 y27 z27
     obtain ⟨rfl, N27q, e27⟩ := hQ27
     have N28 := Fr.app N26 N27q
     refine own_by (T' := T27) (g' := (mkF m 15 #[.val (.ref x), .val (.int 0), .val (.int 2)] [.int c2])) (fun _ kt_ => st27.trans kt_) ?_
     refine own_by (T' := T27) (g' := (mkF m 17 #[.val (.ref x), .val (.int 0), .val (.int 2)] [.int 48, .int c2])) (fun _ kt_ => XS.bipush X27.here hx rfl (hb hby own_d6_15) kt_) ?_
     by_cases hc29 : c2 < (48 : Int32)
     ·refine own_by (T' := T27) (g' := (mkF m 36 #[.val (.ref x), .val (.int 0), .val (.int 2)] [])) (fun _ kt_ => XS.icmpYes X27.here hx rfl (pc0 := 17) (pc' := 36) rfl (hb hby own_d6_17) rfl (XT.ii_lt_t hc29) (by decide) (by decide) kt_) ?_
      refine own_by (T' := T27) (g' := (mkF m 37 #[.val (.ref x), .val (.int 0), .val (.int 2)] [.int 2])) (fun _ kt_ => XS.iloadN X27.here hx rfl (hb hby own_d6_36) rfl kt_) ?_
      refine own_by (T' := T27) (g' := (mkF m 38 #[.val (.ref x), .val (.int 0), .val (.int 2)] [.int 0, .int 2])) (fun _ kt_ => XS.iloadN X27.here hx rfl (hb hby own_d6_37) rfl kt_) ?_
      refine own_by (T' := T27) (g' := (mkF m 39 #[.val (.ref x), .val (.int 0), .val (.int 2)] [(.int ((2 : Int32) - (0 : Int32)))])) (fun _ kt_ => XS.isub X27.here hx rfl (hb hby own_d6_38) rfl kt_) ?_
      rw [show ((2 : Int32) - (0 : Int32)) = (2 : Int32) from by decide]
      have hr30 : (2 : Int32) = (if c0 < (48 : Int32) then (0 : Int32) else (if (57 : Int32) < c0 then (0 : Int32) else (if c1 < (48 : Int32) then (1 : Int32) else (if (57 : Int32) < c1 then (1 : Int32) else (if c2 < (48 : Int32) then (2 : Int32) else (if (57 : Int32) < c2 then (2 : Int32) else (if c3 < (48 : Int32) then (3 : Int32) else (if (57 : Int32) < c3 then (3 : Int32) else (4 : Int32))))))))) := by simp [hc5, hc10, hc17, hc22, hc29]
      obtain ⟨fs31, hr31, hrun31, hended31, hW31, hsame31⟩ := X27.leave (v := some (.int 2)) (fun h => by rw [Bd.returns] at h; cases h)
      refine ⟨_, _, retOut X27 hx (t := .int) Bd.returns rfl (Or.inl ⟨rfl, Or.inl rfl, _, rfl⟩) (hb hby own_d6_39) hr31, hrun31, hended31, _, _, rfl, ?_, ⟨_, rfl⟩, hW31, hsame31.mono (by decide) (by decide)⟩
      show Q_rmD_4_0 Z zC vF hvF x t kB c0 c1 c2 c3 h0 n0 _ T27.heap _
      exact ⟨(congrArg (fun z => some (Value.int z)) hr30), N28, e27⟩
     ·refine own_by (T' := T27) (g' := (mkF m 20 #[.val (.ref x), .val (.int 0), .val (.int 2)] [])) (fun _ kt_ => XS.icmpNo X27.here hx rfl (hb hby own_d6_17) rfl (XT.ii_lt_f hc29) kt_) ?_
      refine own_by (T' := T27) (g' := (mkF m 21 #[.val (.ref x), .val (.int 0), .val (.int 2)] [.ref x])) (fun _ kt_ => XS.aloadN X27.here hx rfl (hb hby own_d6_20) rfl rfl kt_) ?_
      refine own_by (T' := T27) (g' := (mkF m 22 #[.val (.ref x), .val (.int 0), .val (.int 2)] [.int 2, .ref x])) (fun _ kt_ => XS.iloadN X27.here hx rfl (hb hby own_d6_21) rfl kt_) ?_
      obtain ⟨cq32, kq32, q32a, q32b, q32c⟩ := isOf hZ e27 E_x
      obtain ⟨_, _, ⟨T32, L32, k32, n32⟩, -, X32, ⟨Lc32, hQ32, l32, y32, z32⟩, st32⟩ := X27.virtualBack hx (y := (⟨"java/lang/String", "charAt", "(I)C"⟩ : MethodName)) (z := (⟨"java/lang/String", "charAt", "(I)C"⟩ : MethodName)) hown (mvT hZ (ww hw 57 rfl)) (mvT hZ (ww hw 58 rfl)) (notFace_of_selects (args := #[]) (mvT hZ (ww hw 60 rfl))) (mvT hZ (ww hw 60 rfl)) (mvT hZ (ww hw 59 rfl)) (by decide) (backOf (W := 0) (rmChr_4_2 l Z a0 hw [] zC vF hvF GS x t kB c0 c1 c2 c3 h0 n0 (by omega) O0 E_x Fv Fc Vt ok2) hZ (ww hw 61 rfl) (ww hw 9 rfl) (by decide) (by decide)) q32a q32c (g := (mkF m 22 #[.val (.ref x), .val (.int 0), .val (.int 2)] [.int 2, .ref x])) rfl (by rw [hml]; rfl) (Steps.refl _) (argsL := [.int 2]) (rest := []) (lenOf own_pd_11 rfl) rfl (by show 2 * 0 + _ ≤ _; exact Nat.le_of_eq rfl) (hb hby own_d6_22) (fun _ _ => ⟨rfl, e27, (by decide : 0 + 0 ≤ _), (by decide : 0 + 0 ≤ _)⟩)
      dsimp only [Pt.U, Pt.locs, Pt.cells, Pt.slots] at X32 l32 y32 z32 st32 hQ32
      subst l32 y32 z32
      obtain ⟨rfl, N32q, e32⟩ := hQ32
      have N33 := Fr.app N28 N32q
      refine own_by (T' := T32) (g' := (mkF m 25 #[.val (.ref x), .val (.int 0), .val (.int 2)] [.int c2])) (fun _ kt_ => st32.trans kt_) ?_
      refine own_by (T' := T32) (g' := (mkF m 27 #[.val (.ref x), .val (.int 0), .val (.int 2)] [.int 57, .int c2])) (fun _ kt_ => XS.bipush X32.here hx rfl (hb hby own_d6_25) kt_) ?_
      by_cases hc34 : (57 : Int32) < c2
      ·refine own_by (T' := T32) (g' := (mkF m 36 #[.val (.ref x), .val (.int 0), .val (.int 2)] [])) (fun _ kt_ => XS.icmpYes X32.here hx rfl (pc0 := 27) (pc' := 36) rfl (hb hby own_d6_27) rfl (XT.ii_gt_t hc34) (by decide) (by decide) kt_) ?_
       refine own_by (T' := T32) (g' := (mkF m 37 #[.val (.ref x), .val (.int 0), .val (.int 2)] [.int 2])) (fun _ kt_ => XS.iloadN X32.here hx rfl (hb hby own_d6_36) rfl kt_) ?_
       refine own_by (T' := T32) (g' := (mkF m 38 #[.val (.ref x), .val (.int 0), .val (.int 2)] [.int 0, .int 2])) (fun _ kt_ => XS.iloadN X32.here hx rfl (hb hby own_d6_37) rfl kt_) ?_
       refine own_by (T' := T32) (g' := (mkF m 39 #[.val (.ref x), .val (.int 0), .val (.int 2)] [(.int ((2 : Int32) - (0 : Int32)))])) (fun _ kt_ => XS.isub X32.here hx rfl (hb hby own_d6_38) rfl kt_) ?_
       rw [show ((2 : Int32) - (0 : Int32)) = (2 : Int32) from by decide]
       have hr35 : (2 : Int32) = (if c0 < (48 : Int32) then (0 : Int32) else (if (57 : Int32) < c0 then (0 : Int32) else (if c1 < (48 : Int32) then (1 : Int32) else (if (57 : Int32) < c1 then (1 : Int32) else (if c2 < (48 : Int32) then (2 : Int32) else (if (57 : Int32) < c2 then (2 : Int32) else (if c3 < (48 : Int32) then (3 : Int32) else (if (57 : Int32) < c3 then (3 : Int32) else (4 : Int32))))))))) := by simp [hc5, hc10, hc17, hc22, hc29, hc34]
       obtain ⟨fs36, hr36, hrun36, hended36, hW36, hsame36⟩ := X32.leave (v := some (.int 2)) (fun h => by rw [Bd.returns] at h; cases h)
       refine ⟨_, _, retOut X32 hx (t := .int) Bd.returns rfl (Or.inl ⟨rfl, Or.inl rfl, _, rfl⟩) (hb hby own_d6_39) hr36, hrun36, hended36, _, _, rfl, ?_, ⟨_, rfl⟩, hW36, hsame36.mono (by decide) (by decide)⟩
       show Q_rmD_4_0 Z zC vF hvF x t kB c0 c1 c2 c3 h0 n0 _ T32.heap _
       exact ⟨(congrArg (fun z => some (Value.int z)) hr35), N33, e32⟩
      ·refine own_by (T' := T32) (g' := (mkF m 30 #[.val (.ref x), .val (.int 0), .val (.int 2)] [])) (fun _ kt_ => XS.icmpNo X32.here hx rfl (hb hby own_d6_27) rfl (XT.ii_gt_f hc34) kt_) ?_
       refine own_by (T' := T32) (g' := (mkF m 33 #[.val (.ref x), .val (.int 0), .val (.int ((2 : Int32) + (1 : Int32)))] [])) (fun _ kt_ => XS.iinc X32.here hx rfl (hb hby own_d6_30) rfl (l' := #[.val (.ref x), .val (.int 0), .val (.int ((2 : Int32) + (1 : Int32)))]) rfl kt_) ?_
       rw [show ((2 : Int32) + (1 : Int32)) = (3 : Int32) from by decide]
       refine own_by (T' := T32) (g' := (mkF m 2 #[.val (.ref x), .val (.int 0), .val (.int 3)] [])) (fun _ kt_ => XS.goto X32.here hx rfl (pc0 := 33) (pc' := 2) rfl (hb hby own_d6_33) (by decide) (by decide) kt_) ?_
       refine own_by (T' := T32) (g' := (mkF m 3 #[.val (.ref x), .val (.int 0), .val (.int 3)] [.int 3])) (fun _ kt_ => XS.iloadN X32.here hx rfl (hb hby own_d6_2) rfl kt_) ?_
       refine own_by (T' := T32) (g' := (mkF m 4 #[.val (.ref x), .val (.int 0), .val (.int 3)] [.ref x, .int 3])) (fun _ kt_ => XS.aloadN X32.here hx rfl (hb hby own_d6_3) rfl rfl kt_) ?_
       obtain ⟨cq37, kq37, q37a, q37b, q37c⟩ := isOf hZ e32 E_x
       obtain ⟨_, _, ⟨T37, L37, k37, n37⟩, -, X37, ⟨Lc37, hQ37, l37, y37, z37⟩, st37⟩ := X32.virtualBack hx (y := (⟨"java/lang/String", "length", "()I"⟩ : MethodName)) (z := (⟨"java/lang/String", "length", "()I"⟩ : MethodName)) hown (mvT hZ (ww hw 33 rfl)) (mvT hZ (ww hw 34 rfl)) (notFace_of_selects (args := #[]) (mvT hZ (ww hw 36 rfl))) (mvT hZ (ww hw 36 rfl)) (mvT hZ (ww hw 35 rfl)) (by decide) (backOf (W := 1) (rmLen_4 l Z a0 hw [] zC vF hvF GS x t kB c0 c1 c2 c3 h0 n0 (by omega) O0 E_x Fv Fc Vt) hZ (ww hw 37 rfl) (ww hw 9 rfl) (by decide) (by decide)) q37a q37c (g := (mkF m 4 #[.val (.ref x), .val (.int 0), .val (.int 3)] [.ref x, .int 3])) rfl (by rw [hml]; rfl) (Steps.refl _) (argsL := []) (rest := [.int 3]) (lenOf own_pd_10 rfl) rfl (by show 2 * 0 + _ ≤ _; exact Nat.le_of_eq rfl) (hb hby own_d6_4) (fun _ _ => ⟨rfl, e32, (by decide : 0 + 0 ≤ _), (by decide : 0 + 0 ≤ _)⟩)
       dsimp only [Pt.U, Pt.locs, Pt.cells, Pt.slots] at X37 l37 y37 z37 st37 hQ37
       subst l37 y37 z37
       obtain ⟨rfl, N37q, e37⟩ := hQ37
       have N38 := Fr.app N33 N37q
       refine own_by (T' := T37) (g' := (mkF m 7 #[.val (.ref x), .val (.int 0), .val (.int 3)] [.int 4, .int 3])) (fun _ kt_ => st37.trans kt_) ?_
       refine own_by (T' := T37) (g' := (mkF m 10 #[.val (.ref x), .val (.int 0), .val (.int 3)] [])) (fun _ kt_ => XS.icmpNo X37.here hx rfl (hb hby own_d6_7) rfl (XT.ii_ge_f (by decide)) kt_) ?_
       refine own_by (T' := T37) (g' := (mkF m 11 #[.val (.ref x), .val (.int 0), .val (.int 3)] [.ref x])) (fun _ kt_ => XS.aloadN X37.here hx rfl (hb hby own_d6_10) rfl rfl kt_) ?_
       refine own_by (T' := T37) (g' := (mkF m 12 #[.val (.ref x), .val (.int 0), .val (.int 3)] [.int 3, .ref x])) (fun _ kt_ => XS.iloadN X37.here hx rfl (hb hby own_d6_11) rfl kt_) ?_
       obtain ⟨cq39, kq39, q39a, q39b, q39c⟩ := isOf hZ e37 E_x
       obtain ⟨_, _, ⟨T39, L39, k39, n39⟩, -, X39, ⟨Lc39, hQ39, l39, y39, z39⟩, st39⟩ := X37.virtualBack hx (y := (⟨"java/lang/String", "charAt", "(I)C"⟩ : MethodName)) (z := (⟨"java/lang/String", "charAt", "(I)C"⟩ : MethodName)) hown (mvT hZ (ww hw 57 rfl)) (mvT hZ (ww hw 58 rfl)) (notFace_of_selects (args := #[]) (mvT hZ (ww hw 60 rfl))) (mvT hZ (ww hw 60 rfl)) (mvT hZ (ww hw 59 rfl)) (by decide) (backOf (W := 0) (rmChr_4_3 l Z a0 hw [] zC vF hvF GS x t kB c0 c1 c2 c3 h0 n0 (by omega) O0 E_x Fv Fc Vt ok3) hZ (ww hw 61 rfl) (ww hw 9 rfl) (by decide) (by decide)) q39a q39c (g := (mkF m 12 #[.val (.ref x), .val (.int 0), .val (.int 3)] [.int 3, .ref x])) rfl (by rw [hml]; rfl) (Steps.refl _) (argsL := [.int 3]) (rest := []) (lenOf own_pd_11 rfl) rfl (by show 2 * 0 + _ ≤ _; exact Nat.le_of_eq rfl) (hb hby own_d6_12) (fun _ _ => ⟨rfl, e37, (by decide : 0 + 0 ≤ _), (by decide : 0 + 0 ≤ _)⟩)
       dsimp only [Pt.U, Pt.locs, Pt.cells, Pt.slots] at X39 l39 y39 z39 st39 hQ39
       subst l39 y39 z39
       obtain ⟨rfl, N39q, e39⟩ := hQ39
       have N40 := Fr.app N38 N39q
       refine own_by (T' := T39) (g' := (mkF m 15 #[.val (.ref x), .val (.int 0), .val (.int 3)] [.int c3])) (fun _ kt_ => st39.trans kt_) ?_
       refine own_by (T' := T39) (g' := (mkF m 17 #[.val (.ref x), .val (.int 0), .val (.int 3)] [.int 48, .int c3])) (fun _ kt_ => XS.bipush X39.here hx rfl (hb hby own_d6_15) kt_) ?_
       by_cases hc41 : c3 < (48 : Int32)
       ·refine own_by (T' := T39) (g' := (mkF m 36 #[.val (.ref x), .val (.int 0), .val (.int 3)] [])) (fun _ kt_ => XS.icmpYes X39.here hx rfl (pc0 := 17) (pc' := 36) rfl (hb hby own_d6_17) rfl (XT.ii_lt_t hc41) (by decide) (by decide) kt_) ?_
        refine own_by (T' := T39) (g' := (mkF m 37 #[.val (.ref x), .val (.int 0), .val (.int 3)] [.int 3])) (fun _ kt_ => XS.iloadN X39.here hx rfl (hb hby own_d6_36) rfl kt_) ?_
        refine own_by (T' := T39) (g' := (mkF m 38 #[.val (.ref x), .val (.int 0), .val (.int 3)] [.int 0, .int 3])) (fun _ kt_ => XS.iloadN X39.here hx rfl (hb hby own_d6_37) rfl kt_) ?_
        refine own_by (T' := T39) (g' := (mkF m 39 #[.val (.ref x), .val (.int 0), .val (.int 3)] [(.int ((3 : Int32) - (0 : Int32)))])) (fun _ kt_ => XS.isub X39.here hx rfl (hb hby own_d6_38) rfl kt_) ?_
        rw [show ((3 : Int32) - (0 : Int32)) = (3 : Int32) from by decide]
        have hr42 : (3 : Int32) = (if c0 < (48 : Int32) then (0 : Int32) else (if (57 : Int32) < c0 then (0 : Int32) else (if c1 < (48 : Int32) then (1 : Int32) else (if (57 : Int32) < c1 then (1 : Int32) else (if c2 < (48 : Int32) then (2 : Int32) else (if (57 : Int32) < c2 then (2 : Int32) else (if c3 < (48 : Int32) then (3 : Int32) else (if (57 : Int32) < c3 then (3 : Int32) else (4 : Int32))))))))) := by simp [hc5, hc10, hc17, hc22, hc29, hc34, hc41]
        obtain ⟨fs43, hr43, hrun43, hended43, hW43, hsame43⟩ := X39.leave (v := some (.int 3)) (fun h => by rw [Bd.returns] at h; cases h)
        refine ⟨_, _, retOut X39 hx (t := .int) Bd.returns rfl (Or.inl ⟨rfl, Or.inl rfl, _, rfl⟩) (hb hby own_d6_39) hr43, hrun43, hended43, _, _, rfl, ?_, ⟨_, rfl⟩, hW43, hsame43.mono (by decide) (by decide)⟩
        show Q_rmD_4_0 Z zC vF hvF x t kB c0 c1 c2 c3 h0 n0 _ T39.heap _
        exact ⟨(congrArg (fun z => some (Value.int z)) hr42), N40, e39⟩
       ·refine own_by (T' := T39) (g' := (mkF m 20 #[.val (.ref x), .val (.int 0), .val (.int 3)] [])) (fun _ kt_ => XS.icmpNo X39.here hx rfl (hb hby own_d6_17) rfl (XT.ii_lt_f hc41) kt_) ?_
        refine own_by (T' := T39) (g' := (mkF m 21 #[.val (.ref x), .val (.int 0), .val (.int 3)] [.ref x])) (fun _ kt_ => XS.aloadN X39.here hx rfl (hb hby own_d6_20) rfl rfl kt_) ?_
        refine own_by (T' := T39) (g' := (mkF m 22 #[.val (.ref x), .val (.int 0), .val (.int 3)] [.int 3, .ref x])) (fun _ kt_ => XS.iloadN X39.here hx rfl (hb hby own_d6_21) rfl kt_) ?_
        obtain ⟨cq44, kq44, q44a, q44b, q44c⟩ := isOf hZ e39 E_x
        obtain ⟨_, _, ⟨T44, L44, k44, n44⟩, -, X44, ⟨Lc44, hQ44, l44, y44, z44⟩, st44⟩ := X39.virtualBack hx (y := (⟨"java/lang/String", "charAt", "(I)C"⟩ : MethodName)) (z := (⟨"java/lang/String", "charAt", "(I)C"⟩ : MethodName)) hown (mvT hZ (ww hw 57 rfl)) (mvT hZ (ww hw 58 rfl)) (notFace_of_selects (args := #[]) (mvT hZ (ww hw 60 rfl))) (mvT hZ (ww hw 60 rfl)) (mvT hZ (ww hw 59 rfl)) (by decide) (backOf (W := 0) (rmChr_4_3 l Z a0 hw [] zC vF hvF GS x t kB c0 c1 c2 c3 h0 n0 (by omega) O0 E_x Fv Fc Vt ok3) hZ (ww hw 61 rfl) (ww hw 9 rfl) (by decide) (by decide)) q44a q44c (g := (mkF m 22 #[.val (.ref x), .val (.int 0), .val (.int 3)] [.int 3, .ref x])) rfl (by rw [hml]; rfl) (Steps.refl _) (argsL := [.int 3]) (rest := []) (lenOf own_pd_11 rfl) rfl (by show 2 * 0 + _ ≤ _; exact Nat.le_of_eq rfl) (hb hby own_d6_22) (fun _ _ => ⟨rfl, e39, (by decide : 0 + 0 ≤ _), (by decide : 0 + 0 ≤ _)⟩)
        dsimp only [Pt.U, Pt.locs, Pt.cells, Pt.slots] at X44 l44 y44 z44 st44 hQ44
        subst l44 y44 z44
        obtain ⟨rfl, N44q, e44⟩ := hQ44
        have N45 := Fr.app N40 N44q
        refine own_by (T' := T44) (g' := (mkF m 25 #[.val (.ref x), .val (.int 0), .val (.int 3)] [.int c3])) (fun _ kt_ => st44.trans kt_) ?_
        refine own_by (T' := T44) (g' := (mkF m 27 #[.val (.ref x), .val (.int 0), .val (.int 3)] [.int 57, .int c3])) (fun _ kt_ => XS.bipush X44.here hx rfl (hb hby own_d6_25) kt_) ?_
        by_cases hc46 : (57 : Int32) < c3
        ·refine own_by (T' := T44) (g' := (mkF m 36 #[.val (.ref x), .val (.int 0), .val (.int 3)] [])) (fun _ kt_ => XS.icmpYes X44.here hx rfl (pc0 := 27) (pc' := 36) rfl (hb hby own_d6_27) rfl (XT.ii_gt_t hc46) (by decide) (by decide) kt_) ?_
         refine own_by (T' := T44) (g' := (mkF m 37 #[.val (.ref x), .val (.int 0), .val (.int 3)] [.int 3])) (fun _ kt_ => XS.iloadN X44.here hx rfl (hb hby own_d6_36) rfl kt_) ?_
         refine own_by (T' := T44) (g' := (mkF m 38 #[.val (.ref x), .val (.int 0), .val (.int 3)] [.int 0, .int 3])) (fun _ kt_ => XS.iloadN X44.here hx rfl (hb hby own_d6_37) rfl kt_) ?_
         refine own_by (T' := T44) (g' := (mkF m 39 #[.val (.ref x), .val (.int 0), .val (.int 3)] [(.int ((3 : Int32) - (0 : Int32)))])) (fun _ kt_ => XS.isub X44.here hx rfl (hb hby own_d6_38) rfl kt_) ?_
         rw [show ((3 : Int32) - (0 : Int32)) = (3 : Int32) from by decide]
         have hr47 : (3 : Int32) = (if c0 < (48 : Int32) then (0 : Int32) else (if (57 : Int32) < c0 then (0 : Int32) else (if c1 < (48 : Int32) then (1 : Int32) else (if (57 : Int32) < c1 then (1 : Int32) else (if c2 < (48 : Int32) then (2 : Int32) else (if (57 : Int32) < c2 then (2 : Int32) else (if c3 < (48 : Int32) then (3 : Int32) else (if (57 : Int32) < c3 then (3 : Int32) else (4 : Int32))))))))) := by simp [hc5, hc10, hc17, hc22, hc29, hc34, hc41, hc46]
         obtain ⟨fs48, hr48, hrun48, hended48, hW48, hsame48⟩ := X44.leave (v := some (.int 3)) (fun h => by rw [Bd.returns] at h; cases h)
         refine ⟨_, _, retOut X44 hx (t := .int) Bd.returns rfl (Or.inl ⟨rfl, Or.inl rfl, _, rfl⟩) (hb hby own_d6_39) hr48, hrun48, hended48, _, _, rfl, ?_, ⟨_, rfl⟩, hW48, hsame48.mono (by decide) (by decide)⟩
         show Q_rmD_4_0 Z zC vF hvF x t kB c0 c1 c2 c3 h0 n0 _ T44.heap _
         exact ⟨(congrArg (fun z => some (Value.int z)) hr47), N45, e44⟩
        ·refine own_by (T' := T44) (g' := (mkF m 30 #[.val (.ref x), .val (.int 0), .val (.int 3)] [])) (fun _ kt_ => XS.icmpNo X44.here hx rfl (hb hby own_d6_27) rfl (XT.ii_gt_f hc46) kt_) ?_
         refine own_by (T' := T44) (g' := (mkF m 33 #[.val (.ref x), .val (.int 0), .val (.int ((3 : Int32) + (1 : Int32)))] [])) (fun _ kt_ => XS.iinc X44.here hx rfl (hb hby own_d6_30) rfl (l' := #[.val (.ref x), .val (.int 0), .val (.int ((3 : Int32) + (1 : Int32)))]) rfl kt_) ?_
         rw [show ((3 : Int32) + (1 : Int32)) = (4 : Int32) from by decide]
         refine own_by (T' := T44) (g' := (mkF m 2 #[.val (.ref x), .val (.int 0), .val (.int 4)] [])) (fun _ kt_ => XS.goto X44.here hx rfl (pc0 := 33) (pc' := 2) rfl (hb hby own_d6_33) (by decide) (by decide) kt_) ?_
         refine own_by (T' := T44) (g' := (mkF m 3 #[.val (.ref x), .val (.int 0), .val (.int 4)] [.int 4])) (fun _ kt_ => XS.iloadN X44.here hx rfl (hb hby own_d6_2) rfl kt_) ?_
         refine own_by (T' := T44) (g' := (mkF m 4 #[.val (.ref x), .val (.int 0), .val (.int 4)] [.ref x, .int 4])) (fun _ kt_ => XS.aloadN X44.here hx rfl (hb hby own_d6_3) rfl rfl kt_) ?_
         obtain ⟨cq49, kq49, q49a, q49b, q49c⟩ := isOf hZ e44 E_x
         obtain ⟨_, _, ⟨T49, L49, k49, n49⟩, -, X49, ⟨Lc49, hQ49, l49, y49, z49⟩, st49⟩ := X44.virtualBack hx (y := (⟨"java/lang/String", "length", "()I"⟩ : MethodName)) (z := (⟨"java/lang/String", "length", "()I"⟩ : MethodName)) hown (mvT hZ (ww hw 33 rfl)) (mvT hZ (ww hw 34 rfl)) (notFace_of_selects (args := #[]) (mvT hZ (ww hw 36 rfl))) (mvT hZ (ww hw 36 rfl)) (mvT hZ (ww hw 35 rfl)) (by decide) (backOf (W := 1) (rmLen_4 l Z a0 hw [] zC vF hvF GS x t kB c0 c1 c2 c3 h0 n0 (by omega) O0 E_x Fv Fc Vt) hZ (ww hw 37 rfl) (ww hw 9 rfl) (by decide) (by decide)) q49a q49c (g := (mkF m 4 #[.val (.ref x), .val (.int 0), .val (.int 4)] [.ref x, .int 4])) rfl (by rw [hml]; rfl) (Steps.refl _) (argsL := []) (rest := [.int 4]) (lenOf own_pd_10 rfl) rfl (by show 2 * 0 + _ ≤ _; exact Nat.le_of_eq rfl) (hb hby own_d6_4) (fun _ _ => ⟨rfl, e44, (by decide : 0 + 0 ≤ _), (by decide : 0 + 0 ≤ _)⟩)
         dsimp only [Pt.U, Pt.locs, Pt.cells, Pt.slots] at X49 l49 y49 z49 st49 hQ49
         subst l49 y49 z49
         obtain ⟨rfl, N49q, e49⟩ := hQ49
         have N50 := Fr.app N45 N49q
         refine own_by (T' := T49) (g' := (mkF m 7 #[.val (.ref x), .val (.int 0), .val (.int 4)] [.int 4, .int 4])) (fun _ kt_ => st49.trans kt_) ?_
         refine own_by (T' := T49) (g' := (mkF m 36 #[.val (.ref x), .val (.int 0), .val (.int 4)] [])) (fun _ kt_ => XS.icmpYes X49.here hx rfl (pc0 := 7) (pc' := 36) rfl (hb hby own_d6_7) rfl (XT.ii_ge_t (by decide)) (by decide) (by decide) kt_) ?_
         refine own_by (T' := T49) (g' := (mkF m 37 #[.val (.ref x), .val (.int 0), .val (.int 4)] [.int 4])) (fun _ kt_ => XS.iloadN X49.here hx rfl (hb hby own_d6_36) rfl kt_) ?_
         refine own_by (T' := T49) (g' := (mkF m 38 #[.val (.ref x), .val (.int 0), .val (.int 4)] [.int 0, .int 4])) (fun _ kt_ => XS.iloadN X49.here hx rfl (hb hby own_d6_37) rfl kt_) ?_
         refine own_by (T' := T49) (g' := (mkF m 39 #[.val (.ref x), .val (.int 0), .val (.int 4)] [(.int ((4 : Int32) - (0 : Int32)))])) (fun _ kt_ => XS.isub X49.here hx rfl (hb hby own_d6_38) rfl kt_) ?_
         rw [show ((4 : Int32) - (0 : Int32)) = (4 : Int32) from by decide]
         have hr51 : (4 : Int32) = (if c0 < (48 : Int32) then (0 : Int32) else (if (57 : Int32) < c0 then (0 : Int32) else (if c1 < (48 : Int32) then (1 : Int32) else (if (57 : Int32) < c1 then (1 : Int32) else (if c2 < (48 : Int32) then (2 : Int32) else (if (57 : Int32) < c2 then (2 : Int32) else (if c3 < (48 : Int32) then (3 : Int32) else (if (57 : Int32) < c3 then (3 : Int32) else (4 : Int32))))))))) := by simp [hc5, hc10, hc17, hc22, hc29, hc34, hc41, hc46]
         obtain ⟨fs52, hr52, hrun52, hended52, hW52, hsame52⟩ := X49.leave (v := some (.int 4)) (fun h => by rw [Bd.returns] at h; cases h)
         refine ⟨_, _, retOut X49 hx (t := .int) Bd.returns rfl (Or.inl ⟨rfl, Or.inl rfl, _, rfl⟩) (hb hby own_d6_39) hr52, hrun52, hended52, _, _, rfl, ?_, ⟨_, rfl⟩, hW52, hsame52.mono (by decide) (by decide)⟩
         show Q_rmD_4_0 Z zC vF hvF x t kB c0 c1 c2 c3 h0 n0 _ T49.heap _
         exact ⟨(congrArg (fun z => some (Value.int z)) hr51), N50, e49⟩
theorem own_ef_rmD_3_0 (m : MethodId) (x0 : Addr) (x1 : Int32) : entryFrame m #[.ref x0, .int x1] 3 = mkF m 0 #[.val (.ref x0), .val (.int x1), .unset] [] := by first | (simp [entryFrame, mkF, argsToLocals, Value.category]; done) | rfl
def Q_rmD_3_0 (Z : State) (zC : Int32) (vF : Value) (hvF : vF.isRef = true) (x : Addr) (t : Addr) (kB : ClassId) (c0 : Int32) (c1 : Int32) (c2 : Int32) (h0 : Heap) (n0 : Nat) (vv_ : Option Value) (hh_ : Heap) (LL_ : List Loc) : Prop := vv_ = some (.int (if c0 < (48 : Int32) then (0 : Int32) else (if (57 : Int32) < c0 then (0 : Int32) else (if c1 < (48 : Int32) then (1 : Int32) else (if (57 : Int32) < c1 then (1 : Int32) else (if c2 < (48 : Int32) then (2 : Int32) else (if (57 : Int32) < c2 then (2 : Int32) else (3 : Int32)))))))) ∧ Fr n0 LL_ ∧ hh_ = h0
set_option maxRecDepth 65536 in
set_option maxHeartbeats 40000000 in
theorem rmD_3_0 (l : Launch) (Z : State) (a0 : Array Value) (hw : ∀ d ∈ tables_1, d.before a0 Z = true) (ws : List Jvm.Cond) (zC : Int32) (vF : Value) (hvF : vF.isRef = true) (GS : Glob Z zC vF hvF) (x : Addr) (t : Addr) (kB : ClassId) (c0 : Int32) (c1 : Int32) (c2 : Int32) (h0 : Heap) (n0 : Nat) (Z0 : n0 ≤ h0.size) (O0 : Old Z n0 h0) (E_x : Exa Z h0 x "java/lang/String") (Fv : Fld Z h0 x "java/lang/String" "value" "[B" (.ref t)) (Fc : Fld Z h0 x "java/lang/String" "coder" "B" (.int 0)) (Vt : Arv Z h0 t kB .byte (3 : Int32) [(.int c0.toInt8.toInt32), (.int c1.toInt8.toInt32), (.int c2.toInt8.toInt32)] (.int 0)) (ok0 : okF c0) (ok1 : okF c1) (ok2 : okF c2) :
  MetFree l (⟨"com/example/vestledger/vestledger/journal/JournalDecimals", "digitsFrom", "(Ljava/lang/String;I)I"⟩ : MethodName) (head1 (Jvm.Cond.code (⟨"com/example/vestledger/vestledger/journal/JournalDecimals", "digitsFrom", "(Ljava/lang/String;I)I"⟩ : MethodName) prog_21_method_5_code 3 (some .int) :: ws) (⟨4, 0, 0, 53⟩ : Room)) (fun aa_ UU_ => aa_ = #[.ref x, .int 0] ∧ Z.Warmed39 UU_.vm ∧ UU_.heap = h0) (fun _ _ _ _ _ => True) (fun _ UU_ oo_ UV_ => ∃ vv_ LL_, oo_ = .returned vv_ ∧ Q_rmD_3_0 Z zC vF hvF x t kB c0 c1 c2 h0 n0 vv_ UV_.heap LL_ ∧ FrameEnd UU_ oo_ UV_ LL_ (⟨4, 0, 0, 53⟩ : Room).cells (⟨4, 0, 0, 53⟩ : Room).slots) := by
 refine MetFree.of_bodySF (plainFor_of_name own_pn_com_example_vestledger_vestledger_journal_JournalDecimals) hisR ?_
 intro p e s m args below meth c s₁ Bd hml0 hP hK
 obtain ⟨rfl, hZ, hh⟩ := hP
 have hx := Bd.exec
 have hby := Bd.bytes
 have hml : c.maxLocals = 3 := hml0
 have hown : s.vm.findClass "com/example/vestledger/vestledger/journal/JournalDecimals" = some m.cls := findClass_of_methodNamed Bd.named
 have hnm := (name_of_methodNamed Bd.named Bd.method).1
 have X0 : Stand p l e (⟨4, 0, 0, 53⟩ : Room) s m #[.ref x, .int 0] below meth c s₁ [] 0 0 := Stand.of_body Bd
 have e0 : s₁.heap = h0 := by rw [← hh, Bd.state]; rfl
 have N0 := Fr.nil n0
 have hn0 : Z.heap.size = n0 := O0.1
 have KT0 : Keep h0 h0 [] := Keep.refl _ _
 refine own_enter (Φ := fun oo_ UV_ => ∃ vv_ LL_, oo_ = .returned vv_ ∧ Q_rmD_3_0 Z zC vF hvF x t kB c0 c1 c2 h0 n0 vv_ UV_.heap LL_ ∧ FrameEnd s oo_ UV_ LL_ (⟨4, 0, 0, 53⟩ : Room).cells (⟨4, 0, 0, 53⟩ : Room).slots) (own_ef_rmD_3_0 m x (0 : Int32)) ?_
 refine own_by (T' := s₁) (g' := (mkF m 1 #[.val (.ref x), .val (.int 0), .unset] [.int 0])) (fun _ kt_ => XS.iloadN X0.here hx rfl (hb hby own_d6_0) rfl kt_) ?_
 refine own_by (T' := s₁) (g' := (mkF m 2 #[.val (.ref x), .val (.int 0), .val (.int 0)] [])) (fun _ kt_ => XS.istoreN X0.here hx rfl (hb hby own_d6_1) rfl (l' := #[.val (.ref x), .val (.int 0), .val (.int 0)]) rfl kt_) ?_
 refine own_by (T' := s₁) (g' := (mkF m 3 #[.val (.ref x), .val (.int 0), .val (.int 0)] [.int 0])) (fun _ kt_ => XS.iloadN X0.here hx rfl (hb hby own_d6_2) rfl kt_) ?_
 refine own_by (T' := s₁) (g' := (mkF m 4 #[.val (.ref x), .val (.int 0), .val (.int 0)] [.ref x, .int 0])) (fun _ kt_ => XS.aloadN X0.here hx rfl (hb hby own_d6_3) rfl rfl kt_) ?_
 obtain ⟨cq1, kq1, q1a, q1b, q1c⟩ := isOf hZ e0 E_x
 obtain ⟨_, _, ⟨T1, L1, k1, n1⟩, -, X1, ⟨Lc1, hQ1, l1, y1, z1⟩, st1⟩ := X0.virtualBack hx (y := (⟨"java/lang/String", "length", "()I"⟩ : MethodName)) (z := (⟨"java/lang/String", "length", "()I"⟩ : MethodName)) hown (mvT hZ (ww hw 33 rfl)) (mvT hZ (ww hw 34 rfl)) (notFace_of_selects (args := #[]) (mvT hZ (ww hw 36 rfl))) (mvT hZ (ww hw 36 rfl)) (mvT hZ (ww hw 35 rfl)) (by decide) (backOf (W := 1) (rmLen_3 l Z a0 hw [] zC vF hvF GS x t kB c0 c1 c2 h0 n0 (by omega) O0 E_x Fv Fc Vt) hZ (ww hw 37 rfl) (ww hw 9 rfl) (by decide) (by decide)) q1a q1c (g := (mkF m 4 #[.val (.ref x), .val (.int 0), .val (.int 0)] [.ref x, .int 0])) rfl (by rw [hml]; rfl) (Steps.refl _) (argsL := []) (rest := [.int 0]) (lenOf own_pd_10 rfl) rfl (by show 2 * 0 + _ ≤ _; exact Nat.le_of_eq rfl) (hb hby own_d6_4) (fun _ _ => ⟨rfl, e0, (by decide : 0 + 0 ≤ _), (by decide : 0 + 0 ≤ _)⟩)
 dsimp only [Pt.U, Pt.locs, Pt.cells, Pt.slots] at X1 l1 y1 z1 st1 hQ1
 subst l1 y1 z1
 obtain ⟨rfl, N1q, e1⟩ := hQ1
 have N2 := Fr.app N0 N1q
 refine own_by (T' := T1) (g' := (mkF m 7 #[.val (.ref x), .val (.int 0), .val (.int 0)] [.int 3, .int 0])) (fun _ kt_ => st1.trans kt_) ?_
 refine own_by (T' := T1) (g' := (mkF m 10 #[.val (.ref x), .val (.int 0), .val (.int 0)] [])) (fun _ kt_ => XS.icmpNo X1.here hx rfl (hb hby own_d6_7) rfl (XT.ii_ge_f (by decide)) kt_) ?_
 refine own_by (T' := T1) (g' := (mkF m 11 #[.val (.ref x), .val (.int 0), .val (.int 0)] [.ref x])) (fun _ kt_ => XS.aloadN X1.here hx rfl (hb hby own_d6_10) rfl rfl kt_) ?_
 refine own_by (T' := T1) (g' := (mkF m 12 #[.val (.ref x), .val (.int 0), .val (.int 0)] [.int 0, .ref x])) (fun _ kt_ => XS.iloadN X1.here hx rfl (hb hby own_d6_11) rfl kt_) ?_
 obtain ⟨cq3, kq3, q3a, q3b, q3c⟩ := isOf hZ e1 E_x
 obtain ⟨_, _, ⟨T3, L3, k3, n3⟩, -, X3, ⟨Lc3, hQ3, l3, y3, z3⟩, st3⟩ := X1.virtualBack hx (y := (⟨"java/lang/String", "charAt", "(I)C"⟩ : MethodName)) (z := (⟨"java/lang/String", "charAt", "(I)C"⟩ : MethodName)) hown (mvT hZ (ww hw 57 rfl)) (mvT hZ (ww hw 58 rfl)) (notFace_of_selects (args := #[]) (mvT hZ (ww hw 60 rfl))) (mvT hZ (ww hw 60 rfl)) (mvT hZ (ww hw 59 rfl)) (by decide) (backOf (W := 0) (rmChr_3_0 l Z a0 hw [] zC vF hvF GS x t kB c0 c1 c2 h0 n0 (by omega) O0 E_x Fv Fc Vt ok0) hZ (ww hw 61 rfl) (ww hw 9 rfl) (by decide) (by decide)) q3a q3c (g := (mkF m 12 #[.val (.ref x), .val (.int 0), .val (.int 0)] [.int 0, .ref x])) rfl (by rw [hml]; rfl) (Steps.refl _) (argsL := [.int 0]) (rest := []) (lenOf own_pd_11 rfl) rfl (by show 2 * 0 + _ ≤ _; exact Nat.le_of_eq rfl) (hb hby own_d6_12) (fun _ _ => ⟨rfl, e1, (by decide : 0 + 0 ≤ _), (by decide : 0 + 0 ≤ _)⟩)
 dsimp only [Pt.U, Pt.locs, Pt.cells, Pt.slots] at X3 l3 y3 z3 st3 hQ3
 subst l3 y3 z3
 obtain ⟨rfl, N3q, e3⟩ := hQ3
 have N4 := Fr.app N2 N3q
 refine own_by (T' := T3) (g' := (mkF m 15 #[.val (.ref x), .val (.int 0), .val (.int 0)] [.int c0])) (fun _ kt_ => st3.trans kt_) ?_
 refine own_by (T' := T3) (g' := (mkF m 17 #[.val (.ref x), .val (.int 0), .val (.int 0)] [.int 48, .int c0])) (fun _ kt_ => XS.bipush X3.here hx rfl (hb hby own_d6_15) kt_) ?_
 by_cases hc5 : c0 < (48 : Int32)
 ·refine own_by (T' := T3) (g' := (mkF m 36 #[.val (.ref x), .val (.int 0), .val (.int 0)] [])) (fun _ kt_ => XS.icmpYes X3.here hx rfl (pc0 := 17) (pc' := 36) rfl (hb hby own_d6_17) rfl (XT.ii_lt_t hc5) (by decide) (by decide) kt_) ?_
  refine own_by (T' := T3) (g' := (mkF m 37 #[.val (.ref x), .val (.int 0), .val (.int 0)] [.int 0])) (fun _ kt_ => XS.iloadN X3.here hx rfl (hb hby own_d6_36) rfl kt_) ?_
  refine own_by (T' := T3) (g' := (mkF m 38 #[.val (.ref x), .val (.int 0), .val (.int 0)] [.int 0, .int 0])) (fun _ kt_ => XS.iloadN X3.here hx rfl (hb hby own_d6_37) rfl kt_) ?_
  refine own_by (T' := T3) (g' := (mkF m 39 #[.val (.ref x), .val (.int 0), .val (.int 0)] [(.int ((0 : Int32) - (0 : Int32)))])) (fun _ kt_ => XS.isub X3.here hx rfl (hb hby own_d6_38) rfl kt_) ?_
  rw [show ((0 : Int32) - (0 : Int32)) = (0 : Int32) from by decide]
  have hr6 : (0 : Int32) = (if c0 < (48 : Int32) then (0 : Int32) else (if (57 : Int32) < c0 then (0 : Int32) else (if c1 < (48 : Int32) then (1 : Int32) else (if (57 : Int32) < c1 then (1 : Int32) else (if c2 < (48 : Int32) then (2 : Int32) else (if (57 : Int32) < c2 then (2 : Int32) else (3 : Int32))))))) := by simp [hc5]
  obtain ⟨fs7, hr7, hrun7, hended7, hW7, hsame7⟩ := X3.leave (v := some (.int 0)) (fun h => by rw [Bd.returns] at h; cases h)
  refine ⟨_, _, retOut X3 hx (t := .int) Bd.returns rfl (Or.inl ⟨rfl, Or.inl rfl, _, rfl⟩) (hb hby own_d6_39) hr7, hrun7, hended7, _, _, rfl, ?_, ⟨_, rfl⟩, hW7, hsame7.mono (by decide) (by decide)⟩
  show Q_rmD_3_0 Z zC vF hvF x t kB c0 c1 c2 h0 n0 _ T3.heap _
  exact ⟨(congrArg (fun z => some (Value.int z)) hr6), N4, e3⟩
 ·refine own_by (T' := T3) (g' := (mkF m 20 #[.val (.ref x), .val (.int 0), .val (.int 0)] [])) (fun _ kt_ => XS.icmpNo X3.here hx rfl (hb hby own_d6_17) rfl (XT.ii_lt_f hc5) kt_) ?_
  refine own_by (T' := T3) (g' := (mkF m 21 #[.val (.ref x), .val (.int 0), .val (.int 0)] [.ref x])) (fun _ kt_ => XS.aloadN X3.here hx rfl (hb hby own_d6_20) rfl rfl kt_) ?_
  refine own_by (T' := T3) (g' := (mkF m 22 #[.val (.ref x), .val (.int 0), .val (.int 0)] [.int 0, .ref x])) (fun _ kt_ => XS.iloadN X3.here hx rfl (hb hby own_d6_21) rfl kt_) ?_
  obtain ⟨cq8, kq8, q8a, q8b, q8c⟩ := isOf hZ e3 E_x
  obtain ⟨_, _, ⟨T8, L8, k8, n8⟩, -, X8, ⟨Lc8, hQ8, l8, y8, z8⟩, st8⟩ := X3.virtualBack hx (y := (⟨"java/lang/String", "charAt", "(I)C"⟩ : MethodName)) (z := (⟨"java/lang/String", "charAt", "(I)C"⟩ : MethodName)) hown (mvT hZ (ww hw 57 rfl)) (mvT hZ (ww hw 58 rfl)) (notFace_of_selects (args := #[]) (mvT hZ (ww hw 60 rfl))) (mvT hZ (ww hw 60 rfl)) (mvT hZ (ww hw 59 rfl)) (by decide) (backOf (W := 0) (rmChr_3_0 l Z a0 hw [] zC vF hvF GS x t kB c0 c1 c2 h0 n0 (by omega) O0 E_x Fv Fc Vt ok0) hZ (ww hw 61 rfl) (ww hw 9 rfl) (by decide) (by decide)) q8a q8c (g := (mkF m 22 #[.val (.ref x), .val (.int 0), .val (.int 0)] [.int 0, .ref x])) rfl (by rw [hml]; rfl) (Steps.refl _) (argsL := [.int 0]) (rest := []) (lenOf own_pd_11 rfl) rfl (by show 2 * 0 + _ ≤ _; exact Nat.le_of_eq rfl) (hb hby own_d6_22) (fun _ _ => ⟨rfl, e3, (by decide : 0 + 0 ≤ _), (by decide : 0 + 0 ≤ _)⟩)
  dsimp only [Pt.U, Pt.locs, Pt.cells, Pt.slots] at X8 l8 y8 z8 st8 hQ8
  subst l8 y8 z8
  obtain ⟨rfl, N8q, e8⟩ := hQ8
  have N9 := Fr.app N4 N8q
  refine own_by (T' := T8) (g' := (mkF m 25 #[.val (.ref x), .val (.int 0), .val (.int 0)] [.int c0])) (fun _ kt_ => st8.trans kt_) ?_
  refine own_by (T' := T8) (g' := (mkF m 27 #[.val (.ref x), .val (.int 0), .val (.int 0)] [.int 57, .int c0])) (fun _ kt_ => XS.bipush X8.here hx rfl (hb hby own_d6_25) kt_) ?_
  by_cases hc10 : (57 : Int32) < c0
  ·refine own_by (T' := T8) (g' := (mkF m 36 #[.val (.ref x), .val (.int 0), .val (.int 0)] [])) (fun _ kt_ => XS.icmpYes X8.here hx rfl (pc0 := 27) (pc' := 36) rfl (hb hby own_d6_27) rfl (XT.ii_gt_t hc10) (by decide) (by decide) kt_) ?_
   refine own_by (T' := T8) (g' := (mkF m 37 #[.val (.ref x), .val (.int 0), .val (.int 0)] [.int 0])) (fun _ kt_ => XS.iloadN X8.here hx rfl (hb hby own_d6_36) rfl kt_) ?_
   refine own_by (T' := T8) (g' := (mkF m 38 #[.val (.ref x), .val (.int 0), .val (.int 0)] [.int 0, .int 0])) (fun _ kt_ => XS.iloadN X8.here hx rfl (hb hby own_d6_37) rfl kt_) ?_
   refine own_by (T' := T8) (g' := (mkF m 39 #[.val (.ref x), .val (.int 0), .val (.int 0)] [(.int ((0 : Int32) - (0 : Int32)))])) (fun _ kt_ => XS.isub X8.here hx rfl (hb hby own_d6_38) rfl kt_) ?_
   rw [show ((0 : Int32) - (0 : Int32)) = (0 : Int32) from by decide]
   have hr11 : (0 : Int32) = (if c0 < (48 : Int32) then (0 : Int32) else (if (57 : Int32) < c0 then (0 : Int32) else (if c1 < (48 : Int32) then (1 : Int32) else (if (57 : Int32) < c1 then (1 : Int32) else (if c2 < (48 : Int32) then (2 : Int32) else (if (57 : Int32) < c2 then (2 : Int32) else (3 : Int32))))))) := by simp [hc5, hc10]
   obtain ⟨fs12, hr12, hrun12, hended12, hW12, hsame12⟩ := X8.leave (v := some (.int 0)) (fun h => by rw [Bd.returns] at h; cases h)
   refine ⟨_, _, retOut X8 hx (t := .int) Bd.returns rfl (Or.inl ⟨rfl, Or.inl rfl, _, rfl⟩) (hb hby own_d6_39) hr12, hrun12, hended12, _, _, rfl, ?_, ⟨_, rfl⟩, hW12, hsame12.mono (by decide) (by decide)⟩
   show Q_rmD_3_0 Z zC vF hvF x t kB c0 c1 c2 h0 n0 _ T8.heap _
   exact ⟨(congrArg (fun z => some (Value.int z)) hr11), N9, e8⟩
  ·refine own_by (T' := T8) (g' := (mkF m 30 #[.val (.ref x), .val (.int 0), .val (.int 0)] [])) (fun _ kt_ => XS.icmpNo X8.here hx rfl (hb hby own_d6_27) rfl (XT.ii_gt_f hc10) kt_) ?_
   refine own_by (T' := T8) (g' := (mkF m 33 #[.val (.ref x), .val (.int 0), .val (.int ((0 : Int32) + (1 : Int32)))] [])) (fun _ kt_ => XS.iinc X8.here hx rfl (hb hby own_d6_30) rfl (l' := #[.val (.ref x), .val (.int 0), .val (.int ((0 : Int32) + (1 : Int32)))]) rfl kt_) ?_
   rw [show ((0 : Int32) + (1 : Int32)) = (1 : Int32) from by decide]
   refine own_by (T' := T8) (g' := (mkF m 2 #[.val (.ref x), .val (.int 0), .val (.int 1)] [])) (fun _ kt_ => XS.goto X8.here hx rfl (pc0 := 33) (pc' := 2) rfl (hb hby own_d6_33) (by decide) (by decide) kt_) ?_
   refine own_by (T' := T8) (g' := (mkF m 3 #[.val (.ref x), .val (.int 0), .val (.int 1)] [.int 1])) (fun _ kt_ => XS.iloadN X8.here hx rfl (hb hby own_d6_2) rfl kt_) ?_
   refine own_by (T' := T8) (g' := (mkF m 4 #[.val (.ref x), .val (.int 0), .val (.int 1)] [.ref x, .int 1])) (fun _ kt_ => XS.aloadN X8.here hx rfl (hb hby own_d6_3) rfl rfl kt_) ?_
   obtain ⟨cq13, kq13, q13a, q13b, q13c⟩ := isOf hZ e8 E_x
   obtain ⟨_, _, ⟨T13, L13, k13, n13⟩, -, X13, ⟨Lc13, hQ13, l13, y13, z13⟩, st13⟩ := X8.virtualBack hx (y := (⟨"java/lang/String", "length", "()I"⟩ : MethodName)) (z := (⟨"java/lang/String", "length", "()I"⟩ : MethodName)) hown (mvT hZ (ww hw 33 rfl)) (mvT hZ (ww hw 34 rfl)) (notFace_of_selects (args := #[]) (mvT hZ (ww hw 36 rfl))) (mvT hZ (ww hw 36 rfl)) (mvT hZ (ww hw 35 rfl)) (by decide) (backOf (W := 1) (rmLen_3 l Z a0 hw [] zC vF hvF GS x t kB c0 c1 c2 h0 n0 (by omega) O0 E_x Fv Fc Vt) hZ (ww hw 37 rfl) (ww hw 9 rfl) (by decide) (by decide)) q13a q13c (g := (mkF m 4 #[.val (.ref x), .val (.int 0), .val (.int 1)] [.ref x, .int 1])) rfl (by rw [hml]; rfl) (Steps.refl _) (argsL := []) (rest := [.int 1]) (lenOf own_pd_10 rfl) rfl (by show 2 * 0 + _ ≤ _; exact Nat.le_of_eq rfl) (hb hby own_d6_4) (fun _ _ => ⟨rfl, e8, (by decide : 0 + 0 ≤ _), (by decide : 0 + 0 ≤ _)⟩)
   dsimp only [Pt.U, Pt.locs, Pt.cells, Pt.slots] at X13 l13 y13 z13 st13 hQ13
   subst l13 y13 z13
   obtain ⟨rfl, N13q, e13⟩ := hQ13
   have N14 := Fr.app N9 N13q
   refine own_by (T' := T13) (g' := (mkF m 7 #[.val (.ref x), .val (.int 0), .val (.int 1)] [.int 3, .int 1])) (fun _ kt_ => st13.trans kt_) ?_
   refine own_by (T' := T13) (g' := (mkF m 10 #[.val (.ref x), .val (.int 0), .val (.int 1)] [])) (fun _ kt_ => XS.icmpNo X13.here hx rfl (hb hby own_d6_7) rfl (XT.ii_ge_f (by decide)) kt_) ?_
   refine own_by (T' := T13) (g' := (mkF m 11 #[.val (.ref x), .val (.int 0), .val (.int 1)] [.ref x])) (fun _ kt_ => XS.aloadN X13.here hx rfl (hb hby own_d6_10) rfl rfl kt_) ?_
   refine own_by (T' := T13) (g' := (mkF m 12 #[.val (.ref x), .val (.int 0), .val (.int 1)] [.int 1, .ref x])) (fun _ kt_ => XS.iloadN X13.here hx rfl (hb hby own_d6_11) rfl kt_) ?_
   obtain ⟨cq15, kq15, q15a, q15b, q15c⟩ := isOf hZ e13 E_x
   obtain ⟨_, _, ⟨T15, L15, k15, n15⟩, -, X15, ⟨Lc15, hQ15, l15, y15, z15⟩, st15⟩ := X13.virtualBack hx (y := (⟨"java/lang/String", "charAt", "(I)C"⟩ : MethodName)) (z := (⟨"java/lang/String", "charAt", "(I)C"⟩ : MethodName)) hown (mvT hZ (ww hw 57 rfl)) (mvT hZ (ww hw 58 rfl)) (notFace_of_selects (args := #[]) (mvT hZ (ww hw 60 rfl))) (mvT hZ (ww hw 60 rfl)) (mvT hZ (ww hw 59 rfl)) (by decide) (backOf (W := 0) (rmChr_3_1 l Z a0 hw [] zC vF hvF GS x t kB c0 c1 c2 h0 n0 (by omega) O0 E_x Fv Fc Vt ok1) hZ (ww hw 61 rfl) (ww hw 9 rfl) (by decide) (by decide)) q15a q15c (g := (mkF m 12 #[.val (.ref x), .val (.int 0), .val (.int 1)] [.int 1, .ref x])) rfl (by rw [hml]; rfl) (Steps.refl _) (argsL := [.int 1]) (rest := []) (lenOf own_pd_11 rfl) rfl (by show 2 * 0 + _ ≤ _; exact Nat.le_of_eq rfl) (hb hby own_d6_12) (fun _ _ => ⟨rfl, e13, (by decide : 0 + 0 ≤ _), (by decide : 0 + 0 ≤ _)⟩)
   dsimp only [Pt.U, Pt.locs, Pt.cells, Pt.slots] at X15 l15 y15 z15 st15 hQ15
   subst l15 y15 z15
   obtain ⟨rfl, N15q, e15⟩ := hQ15
   have N16 := Fr.app N14 N15q
   refine own_by (T' := T15) (g' := (mkF m 15 #[.val (.ref x), .val (.int 0), .val (.int 1)] [.int c1])) (fun _ kt_ => st15.trans kt_) ?_
   refine own_by (T' := T15) (g' := (mkF m 17 #[.val (.ref x), .val (.int 0), .val (.int 1)] [.int 48, .int c1])) (fun _ kt_ => XS.bipush X15.here hx rfl (hb hby own_d6_15) kt_) ?_
   by_cases hc17 : c1 < (48 : Int32)
   ·refine own_by (T' := T15) (g' := (mkF m 36 #[.val (.ref x), .val (.int 0), .val (.int 1)] [])) (fun _ kt_ => XS.icmpYes X15.here hx rfl (pc0 := 17) (pc' := 36) rfl (hb hby own_d6_17) rfl (XT.ii_lt_t hc17) (by decide) (by decide) kt_) ?_
    refine own_by (T' := T15) (g' := (mkF m 37 #[.val (.ref x), .val (.int 0), .val (.int 1)] [.int 1])) (fun _ kt_ => XS.iloadN X15.here hx rfl (hb hby own_d6_36) rfl kt_) ?_
    refine own_by (T' := T15) (g' := (mkF m 38 #[.val (.ref x), .val (.int 0), .val (.int 1)] [.int 0, .int 1])) (fun _ kt_ => XS.iloadN X15.here hx rfl (hb hby own_d6_37) rfl kt_) ?_
    refine own_by (T' := T15) (g' := (mkF m 39 #[.val (.ref x), .val (.int 0), .val (.int 1)] [(.int ((1 : Int32) - (0 : Int32)))])) (fun _ kt_ => XS.isub X15.here hx rfl (hb hby own_d6_38) rfl kt_) ?_
    rw [show ((1 : Int32) - (0 : Int32)) = (1 : Int32) from by decide]
    have hr18 : (1 : Int32) = (if c0 < (48 : Int32) then (0 : Int32) else (if (57 : Int32) < c0 then (0 : Int32) else (if c1 < (48 : Int32) then (1 : Int32) else (if (57 : Int32) < c1 then (1 : Int32) else (if c2 < (48 : Int32) then (2 : Int32) else (if (57 : Int32) < c2 then (2 : Int32) else (3 : Int32))))))) := by simp [hc5, hc10, hc17]
    obtain ⟨fs19, hr19, hrun19, hended19, hW19, hsame19⟩ := X15.leave (v := some (.int 1)) (fun h => by rw [Bd.returns] at h; cases h)
    refine ⟨_, _, retOut X15 hx (t := .int) Bd.returns rfl (Or.inl ⟨rfl, Or.inl rfl, _, rfl⟩) (hb hby own_d6_39) hr19, hrun19, hended19, _, _, rfl, ?_, ⟨_, rfl⟩, hW19, hsame19.mono (by decide) (by decide)⟩
    show Q_rmD_3_0 Z zC vF hvF x t kB c0 c1 c2 h0 n0 _ T15.heap _
    exact ⟨(congrArg (fun z => some (Value.int z)) hr18), N16, e15⟩
   ·refine own_by (T' := T15) (g' := (mkF m 20 #[.val (.ref x), .val (.int 0), .val (.int 1)] [])) (fun _ kt_ => XS.icmpNo X15.here hx rfl (hb hby own_d6_17) rfl (XT.ii_lt_f hc17) kt_) ?_
    refine own_by (T' := T15) (g' := (mkF m 21 #[.val (.ref x), .val (.int 0), .val (.int 1)] [.ref x])) (fun _ kt_ => XS.aloadN X15.here hx rfl (hb hby own_d6_20) rfl rfl kt_) ?_
    refine own_by (T' := T15) (g' := (mkF m 22 #[.val (.ref x), .val (.int 0), .val (.int 1)] [.int 1, .ref x])) (fun _ kt_ => XS.iloadN X15.here hx rfl (hb hby own_d6_21) rfl kt_) ?_
    obtain ⟨cq20, kq20, q20a, q20b, q20c⟩ := isOf hZ e15 E_x
    obtain ⟨_, _, ⟨T20, L20, k20, n20⟩, -, X20, ⟨Lc20, hQ20, l20, y20, z20⟩, st20⟩ := X15.virtualBack hx (y := (⟨"java/lang/String", "charAt", "(I)C"⟩ : MethodName)) (z := (⟨"java/lang/String", "charAt", "(I)C"⟩ : MethodName)) hown (mvT hZ (ww hw 57 rfl)) (mvT hZ (ww hw 58 rfl)) (notFace_of_selects (args := #[]) (mvT hZ (ww hw 60 rfl))) (mvT hZ (ww hw 60 rfl)) (mvT hZ (ww hw 59 rfl)) (by decide) (backOf (W := 0) (rmChr_3_1 l Z a0 hw [] zC vF hvF GS x t kB c0 c1 c2 h0 n0 (by omega) O0 E_x Fv Fc Vt ok1) hZ (ww hw 61 rfl) (ww hw 9 rfl) (by decide) (by decide)) q20a q20c (g := (mkF m 22 #[.val (.ref x), .val (.int 0), .val (.int 1)] [.int 1, .ref x])) rfl (by rw [hml]; rfl) (Steps.refl _) (argsL := [.int 1]) (rest := []) (lenOf own_pd_11 rfl) rfl (by show 2 * 0 + _ ≤ _; exact Nat.le_of_eq rfl) (hb hby own_d6_22) (fun _ _ => ⟨rfl, e15, (by decide : 0 + 0 ≤ _), (by decide : 0 + 0 ≤ _)⟩)
    dsimp only [Pt.U, Pt.locs, Pt.cells, Pt.slots] at X20 l20 y20 z20 st20 hQ20
    subst l20 y20 z20
    obtain ⟨rfl, N20q, e20⟩ := hQ20
    have N21 := Fr.app N16 N20q
    refine own_by (T' := T20) (g' := (mkF m 25 #[.val (.ref x), .val (.int 0), .val (.int 1)] [.int c1])) (fun _ kt_ => st20.trans kt_) ?_
    refine own_by (T' := T20) (g' := (mkF m 27 #[.val (.ref x), .val (.int 0), .val (.int 1)] [.int 57, .int c1])) (fun _ kt_ => XS.bipush X20.here hx rfl (hb hby own_d6_25) kt_) ?_
    by_cases hc22 : (57 : Int32) < c1
    ·refine own_by (T' := T20) (g' := (mkF m 36 #[.val (.ref x), .val (.int 0), .val (.int 1)] [])) (fun _ kt_ => XS.icmpYes X20.here hx rfl (pc0 := 27) (pc' := 36) rfl (hb hby own_d6_27) rfl (XT.ii_gt_t hc22) (by decide) (by decide) kt_) ?_
     refine own_by (T' := T20) (g' := (mkF m 37 #[.val (.ref x), .val (.int 0), .val (.int 1)] [.int 1])) (fun _ kt_ => XS.iloadN X20.here hx rfl (hb hby own_d6_36) rfl kt_) ?_
     refine own_by (T' := T20) (g' := (mkF m 38 #[.val (.ref x), .val (.int 0), .val (.int 1)] [.int 0, .int 1])) (fun _ kt_ => XS.iloadN X20.here hx rfl (hb hby own_d6_37) rfl kt_) ?_
     refine own_by (T' := T20) (g' := (mkF m 39 #[.val (.ref x), .val (.int 0), .val (.int 1)] [(.int ((1 : Int32) - (0 : Int32)))])) (fun _ kt_ => XS.isub X20.here hx rfl (hb hby own_d6_38) rfl kt_) ?_
     rw [show ((1 : Int32) - (0 : Int32)) = (1 : Int32) from by decide]
     have hr23 : (1 : Int32) = (if c0 < (48 : Int32) then (0 : Int32) else (if (57 : Int32) < c0 then (0 : Int32) else (if c1 < (48 : Int32) then (1 : Int32) else (if (57 : Int32) < c1 then (1 : Int32) else (if c2 < (48 : Int32) then (2 : Int32) else (if (57 : Int32) < c2 then (2 : Int32) else (3 : Int32))))))) := by simp [hc5, hc10, hc17, hc22]
     obtain ⟨fs24, hr24, hrun24, hended24, hW24, hsame24⟩ := X20.leave (v := some (.int 1)) (fun h => by rw [Bd.returns] at h; cases h)
     refine ⟨_, _, retOut X20 hx (t := .int) Bd.returns rfl (Or.inl ⟨rfl, Or.inl rfl, _, rfl⟩) (hb hby own_d6_39) hr24, hrun24, hended24, _, _, rfl, ?_, ⟨_, rfl⟩, hW24, hsame24.mono (by decide) (by decide)⟩
     show Q_rmD_3_0 Z zC vF hvF x t kB c0 c1 c2 h0 n0 _ T20.heap _
     exact ⟨(congrArg (fun z => some (Value.int z)) hr23), N21, e20⟩
    ·refine own_by (T' := T20) (g' := (mkF m 30 #[.val (.ref x), .val (.int 0), .val (.int 1)] [])) (fun _ kt_ => XS.icmpNo X20.here hx rfl (hb hby own_d6_27) rfl (XT.ii_gt_f hc22) kt_) ?_
     refine own_by (T' := T20) (g' := (mkF m 33 #[.val (.ref x), .val (.int 0), .val (.int ((1 : Int32) + (1 : Int32)))] [])) (fun _ kt_ => XS.iinc X20.here hx rfl (hb hby own_d6_30) rfl (l' := #[.val (.ref x), .val (.int 0), .val (.int ((1 : Int32) + (1 : Int32)))]) rfl kt_) ?_
     rw [show ((1 : Int32) + (1 : Int32)) = (2 : Int32) from by decide]
     refine own_by (T' := T20) (g' := (mkF m 2 #[.val (.ref x), .val (.int 0), .val (.int 2)] [])) (fun _ kt_ => XS.goto X20.here hx rfl (pc0 := 33) (pc' := 2) rfl (hb hby own_d6_33) (by decide) (by decide) kt_) ?_
     refine own_by (T' := T20) (g' := (mkF m 3 #[.val (.ref x), .val (.int 0), .val (.int 2)] [.int 2])) (fun _ kt_ => XS.iloadN X20.here hx rfl (hb hby own_d6_2) rfl kt_) ?_
     refine own_by (T' := T20) (g' := (mkF m 4 #[.val (.ref x), .val (.int 0), .val (.int 2)] [.ref x, .int 2])) (fun _ kt_ => XS.aloadN X20.here hx rfl (hb hby own_d6_3) rfl rfl kt_) ?_
     obtain ⟨cq25, kq25, q25a, q25b, q25c⟩ := isOf hZ e20 E_x
     obtain ⟨_, _, ⟨T25, L25, k25, n25⟩, -, X25, ⟨Lc25, hQ25, l25, y25, z25⟩, st25⟩ := X20.virtualBack hx (y := (⟨"java/lang/String", "length", "()I"⟩ : MethodName)) (z := (⟨"java/lang/String", "length", "()I"⟩ : MethodName)) hown (mvT hZ (ww hw 33 rfl)) (mvT hZ (ww hw 34 rfl)) (notFace_of_selects (args := #[]) (mvT hZ (ww hw 36 rfl))) (mvT hZ (ww hw 36 rfl)) (mvT hZ (ww hw 35 rfl)) (by decide) (backOf (W := 1) (rmLen_3 l Z a0 hw [] zC vF hvF GS x t kB c0 c1 c2 h0 n0 (by omega) O0 E_x Fv Fc Vt) hZ (ww hw 37 rfl) (ww hw 9 rfl) (by decide) (by decide)) q25a q25c (g := (mkF m 4 #[.val (.ref x), .val (.int 0), .val (.int 2)] [.ref x, .int 2])) rfl (by rw [hml]; rfl) (Steps.refl _) (argsL := []) (rest := [.int 2]) (lenOf own_pd_10 rfl) rfl (by show 2 * 0 + _ ≤ _; exact Nat.le_of_eq rfl) (hb hby own_d6_4) (fun _ _ => ⟨rfl, e20, (by decide : 0 + 0 ≤ _), (by decide : 0 + 0 ≤ _)⟩)
     dsimp only [Pt.U, Pt.locs, Pt.cells, Pt.slots] at X25 l25 y25 z25 st25 hQ25
     subst l25 y25 z25
     obtain ⟨rfl, N25q, e25⟩ := hQ25
     have N26 := Fr.app N21 N25q
     refine own_by (T' := T25) (g' := (mkF m 7 #[.val (.ref x), .val (.int 0), .val (.int 2)] [.int 3, .int 2])) (fun _ kt_ => st25.trans kt_) ?_
     refine own_by (T' := T25) (g' := (mkF m 10 #[.val (.ref x), .val (.int 0), .val (.int 2)] [])) (fun _ kt_ => XS.icmpNo X25.here hx rfl (hb hby own_d6_7) rfl (XT.ii_ge_f (by decide)) kt_) ?_
     refine own_by (T' := T25) (g' := (mkF m 11 #[.val (.ref x), .val (.int 0), .val (.int 2)] [.ref x])) (fun _ kt_ => XS.aloadN X25.here hx rfl (hb hby own_d6_10) rfl rfl kt_) ?_
     refine own_by (T' := T25) (g' := (mkF m 12 #[.val (.ref x), .val (.int 0), .val (.int 2)] [.int 2, .ref x])) (fun _ kt_ => XS.iloadN X25.here hx rfl (hb hby own_d6_11) rfl kt_) ?_
     obtain ⟨cq27, kq27, q27a, q27b, q27c⟩ := isOf hZ e25 E_x
     obtain ⟨_, _, ⟨T27, L27, k27, n27⟩, -, X27, ⟨Lc27, hQ27, l27, y27, z27⟩, st27⟩ := X25.virtualBack hx (y := (⟨"java/lang/String", "charAt", "(I)C"⟩ : MethodName)) (z := (⟨"java/lang/String", "charAt", "(I)C"⟩ : MethodName)) hown (mvT hZ (ww hw 57 rfl)) (mvT hZ (ww hw 58 rfl)) (notFace_of_selects (args := #[]) (mvT hZ (ww hw 60 rfl))) (mvT hZ (ww hw 60 rfl)) (mvT hZ (ww hw 59 rfl)) (by decide) (backOf (W := 0) (rmChr_3_2 l Z a0 hw [] zC vF hvF GS x t kB c0 c1 c2 h0 n0 (by omega) O0 E_x Fv Fc Vt ok2) hZ (ww hw 61 rfl) (ww hw 9 rfl) (by decide) (by decide)) q27a q27c (g := (mkF m 12 #[.val (.ref x), .val (.int 0), .val (.int 2)] [.int 2, .ref x])) rfl (by rw [hml]; rfl) (Steps.refl _) (argsL := [.int 2]) (rest := []) (lenOf own_pd_11 rfl) rfl (by show 2 * 0 + _ ≤ _; exact Nat.le_of_eq rfl) (hb hby own_d6_12) (fun _ _ => ⟨rfl, e25, (by decide : 0 + 0 ≤ _), (by decide : 0 + 0 ≤ _)⟩)
     dsimp only [Pt.U, Pt.locs, Pt.cells, Pt.slots] at X27 l27 y27 z27 st27 hQ27
     subst l27 y27 z27
     obtain ⟨rfl, N27q, e27⟩ := hQ27
     have N28 := Fr.app N26 N27q
     refine own_by (T' := T27) (g' := (mkF m 15 #[.val (.ref x), .val (.int 0), .val (.int 2)] [.int c2])) (fun _ kt_ => st27.trans kt_) ?_
     refine own_by (T' := T27) (g' := (mkF m 17 #[.val (.ref x), .val (.int 0), .val (.int 2)] [.int 48, .int c2])) (fun _ kt_ => XS.bipush X27.here hx rfl (hb hby own_d6_15) kt_) ?_
     by_cases hc29 : c2 < (48 : Int32)
     ·refine own_by (T' := T27) (g' := (mkF m 36 #[.val (.ref x), .val (.int 0), .val (.int 2)] [])) (fun _ kt_ => XS.icmpYes X27.here hx rfl (pc0 := 17) (pc' := 36) rfl (hb hby own_d6_17) rfl (XT.ii_lt_t hc29) (by decide) (by decide) kt_) ?_
      refine own_by (T' := T27) (g' := (mkF m 37 #[.val (.ref x), .val (.int 0), .val (.int 2)] [.int 2])) (fun _ kt_ => XS.iloadN X27.here hx rfl (hb hby own_d6_36) rfl kt_) ?_
      refine own_by (T' := T27) (g' := (mkF m 38 #[.val (.ref x), .val (.int 0), .val (.int 2)] [.int 0, .int 2])) (fun _ kt_ => XS.iloadN X27.here hx rfl (hb hby own_d6_37) rfl kt_) ?_
      refine own_by (T' := T27) (g' := (mkF m 39 #[.val (.ref x), .val (.int 0), .val (.int 2)] [(.int ((2 : Int32) - (0 : Int32)))])) (fun _ kt_ => XS.isub X27.here hx rfl (hb hby own_d6_38) rfl kt_) ?_
      rw [show ((2 : Int32) - (0 : Int32)) = (2 : Int32) from by decide]
      have hr30 : (2 : Int32) = (if c0 < (48 : Int32) then (0 : Int32) else (if (57 : Int32) < c0 then (0 : Int32) else (if c1 < (48 : Int32) then (1 : Int32) else (if (57 : Int32) < c1 then (1 : Int32) else (if c2 < (48 : Int32) then (2 : Int32) else (if (57 : Int32) < c2 then (2 : Int32) else (3 : Int32))))))) := by simp [hc5, hc10, hc17, hc22, hc29]
      obtain ⟨fs31, hr31, hrun31, hended31, hW31, hsame31⟩ := X27.leave (v := some (.int 2)) (fun h => by rw [Bd.returns] at h; cases h)
      refine ⟨_, _, retOut X27 hx (t := .int) Bd.returns rfl (Or.inl ⟨rfl, Or.inl rfl, _, rfl⟩) (hb hby own_d6_39) hr31, hrun31, hended31, _, _, rfl, ?_, ⟨_, rfl⟩, hW31, hsame31.mono (by decide) (by decide)⟩
      show Q_rmD_3_0 Z zC vF hvF x t kB c0 c1 c2 h0 n0 _ T27.heap _
      exact ⟨(congrArg (fun z => some (Value.int z)) hr30), N28, e27⟩
     ·refine own_by (T' := T27) (g' := (mkF m 20 #[.val (.ref x), .val (.int 0), .val (.int 2)] [])) (fun _ kt_ => XS.icmpNo X27.here hx rfl (hb hby own_d6_17) rfl (XT.ii_lt_f hc29) kt_) ?_
      refine own_by (T' := T27) (g' := (mkF m 21 #[.val (.ref x), .val (.int 0), .val (.int 2)] [.ref x])) (fun _ kt_ => XS.aloadN X27.here hx rfl (hb hby own_d6_20) rfl rfl kt_) ?_
      refine own_by (T' := T27) (g' := (mkF m 22 #[.val (.ref x), .val (.int 0), .val (.int 2)] [.int 2, .ref x])) (fun _ kt_ => XS.iloadN X27.here hx rfl (hb hby own_d6_21) rfl kt_) ?_
      obtain ⟨cq32, kq32, q32a, q32b, q32c⟩ := isOf hZ e27 E_x
      obtain ⟨_, _, ⟨T32, L32, k32, n32⟩, -, X32, ⟨Lc32, hQ32, l32, y32, z32⟩, st32⟩ := X27.virtualBack hx (y := (⟨"java/lang/String", "charAt", "(I)C"⟩ : MethodName)) (z := (⟨"java/lang/String", "charAt", "(I)C"⟩ : MethodName)) hown (mvT hZ (ww hw 57 rfl)) (mvT hZ (ww hw 58 rfl)) (notFace_of_selects (args := #[]) (mvT hZ (ww hw 60 rfl))) (mvT hZ (ww hw 60 rfl)) (mvT hZ (ww hw 59 rfl)) (by decide) (backOf (W := 0) (rmChr_3_2 l Z a0 hw [] zC vF hvF GS x t kB c0 c1 c2 h0 n0 (by omega) O0 E_x Fv Fc Vt ok2) hZ (ww hw 61 rfl) (ww hw 9 rfl) (by decide) (by decide)) q32a q32c (g := (mkF m 22 #[.val (.ref x), .val (.int 0), .val (.int 2)] [.int 2, .ref x])) rfl (by rw [hml]; rfl) (Steps.refl _) (argsL := [.int 2]) (rest := []) (lenOf own_pd_11 rfl) rfl (by show 2 * 0 + _ ≤ _; exact Nat.le_of_eq rfl) (hb hby own_d6_22) (fun _ _ => ⟨rfl, e27, (by decide : 0 + 0 ≤ _), (by decide : 0 + 0 ≤ _)⟩)
      dsimp only [Pt.U, Pt.locs, Pt.cells, Pt.slots] at X32 l32 y32 z32 st32 hQ32
      subst l32 y32 z32
      obtain ⟨rfl, N32q, e32⟩ := hQ32
      have N33 := Fr.app N28 N32q
      refine own_by (T' := T32) (g' := (mkF m 25 #[.val (.ref x), .val (.int 0), .val (.int 2)] [.int c2])) (fun _ kt_ => st32.trans kt_) ?_
      refine own_by (T' := T32) (g' := (mkF m 27 #[.val (.ref x), .val (.int 0), .val (.int 2)] [.int 57, .int c2])) (fun _ kt_ => XS.bipush X32.here hx rfl (hb hby own_d6_25) kt_) ?_
      by_cases hc34 : (57 : Int32) < c2
      ·refine own_by (T' := T32) (g' := (mkF m 36 #[.val (.ref x), .val (.int 0), .val (.int 2)] [])) (fun _ kt_ => XS.icmpYes X32.here hx rfl (pc0 := 27) (pc' := 36) rfl (hb hby own_d6_27) rfl (XT.ii_gt_t hc34) (by decide) (by decide) kt_) ?_
       refine own_by (T' := T32) (g' := (mkF m 37 #[.val (.ref x), .val (.int 0), .val (.int 2)] [.int 2])) (fun _ kt_ => XS.iloadN X32.here hx rfl (hb hby own_d6_36) rfl kt_) ?_
       refine own_by (T' := T32) (g' := (mkF m 38 #[.val (.ref x), .val (.int 0), .val (.int 2)] [.int 0, .int 2])) (fun _ kt_ => XS.iloadN X32.here hx rfl (hb hby own_d6_37) rfl kt_) ?_
       refine own_by (T' := T32) (g' := (mkF m 39 #[.val (.ref x), .val (.int 0), .val (.int 2)] [(.int ((2 : Int32) - (0 : Int32)))])) (fun _ kt_ => XS.isub X32.here hx rfl (hb hby own_d6_38) rfl kt_) ?_
       rw [show ((2 : Int32) - (0 : Int32)) = (2 : Int32) from by decide]
       have hr35 : (2 : Int32) = (if c0 < (48 : Int32) then (0 : Int32) else (if (57 : Int32) < c0 then (0 : Int32) else (if c1 < (48 : Int32) then (1 : Int32) else (if (57 : Int32) < c1 then (1 : Int32) else (if c2 < (48 : Int32) then (2 : Int32) else (if (57 : Int32) < c2 then (2 : Int32) else (3 : Int32))))))) := by simp [hc5, hc10, hc17, hc22, hc29, hc34]
       obtain ⟨fs36, hr36, hrun36, hended36, hW36, hsame36⟩ := X32.leave (v := some (.int 2)) (fun h => by rw [Bd.returns] at h; cases h)
       refine ⟨_, _, retOut X32 hx (t := .int) Bd.returns rfl (Or.inl ⟨rfl, Or.inl rfl, _, rfl⟩) (hb hby own_d6_39) hr36, hrun36, hended36, _, _, rfl, ?_, ⟨_, rfl⟩, hW36, hsame36.mono (by decide) (by decide)⟩
       show Q_rmD_3_0 Z zC vF hvF x t kB c0 c1 c2 h0 n0 _ T32.heap _
       exact ⟨(congrArg (fun z => some (Value.int z)) hr35), N33, e32⟩
      ·refine own_by (T' := T32) (g' := (mkF m 30 #[.val (.ref x), .val (.int 0), .val (.int 2)] [])) (fun _ kt_ => XS.icmpNo X32.here hx rfl (hb hby own_d6_27) rfl (XT.ii_gt_f hc34) kt_) ?_
       refine own_by (T' := T32) (g' := (mkF m 33 #[.val (.ref x), .val (.int 0), .val (.int ((2 : Int32) + (1 : Int32)))] [])) (fun _ kt_ => XS.iinc X32.here hx rfl (hb hby own_d6_30) rfl (l' := #[.val (.ref x), .val (.int 0), .val (.int ((2 : Int32) + (1 : Int32)))]) rfl kt_) ?_
       rw [show ((2 : Int32) + (1 : Int32)) = (3 : Int32) from by decide]
       refine own_by (T' := T32) (g' := (mkF m 2 #[.val (.ref x), .val (.int 0), .val (.int 3)] [])) (fun _ kt_ => XS.goto X32.here hx rfl (pc0 := 33) (pc' := 2) rfl (hb hby own_d6_33) (by decide) (by decide) kt_) ?_
       refine own_by (T' := T32) (g' := (mkF m 3 #[.val (.ref x), .val (.int 0), .val (.int 3)] [.int 3])) (fun _ kt_ => XS.iloadN X32.here hx rfl (hb hby own_d6_2) rfl kt_) ?_
       refine own_by (T' := T32) (g' := (mkF m 4 #[.val (.ref x), .val (.int 0), .val (.int 3)] [.ref x, .int 3])) (fun _ kt_ => XS.aloadN X32.here hx rfl (hb hby own_d6_3) rfl rfl kt_) ?_
       obtain ⟨cq37, kq37, q37a, q37b, q37c⟩ := isOf hZ e32 E_x
       obtain ⟨_, _, ⟨T37, L37, k37, n37⟩, -, X37, ⟨Lc37, hQ37, l37, y37, z37⟩, st37⟩ := X32.virtualBack hx (y := (⟨"java/lang/String", "length", "()I"⟩ : MethodName)) (z := (⟨"java/lang/String", "length", "()I"⟩ : MethodName)) hown (mvT hZ (ww hw 33 rfl)) (mvT hZ (ww hw 34 rfl)) (notFace_of_selects (args := #[]) (mvT hZ (ww hw 36 rfl))) (mvT hZ (ww hw 36 rfl)) (mvT hZ (ww hw 35 rfl)) (by decide) (backOf (W := 1) (rmLen_3 l Z a0 hw [] zC vF hvF GS x t kB c0 c1 c2 h0 n0 (by omega) O0 E_x Fv Fc Vt) hZ (ww hw 37 rfl) (ww hw 9 rfl) (by decide) (by decide)) q37a q37c (g := (mkF m 4 #[.val (.ref x), .val (.int 0), .val (.int 3)] [.ref x, .int 3])) rfl (by rw [hml]; rfl) (Steps.refl _) (argsL := []) (rest := [.int 3]) (lenOf own_pd_10 rfl) rfl (by show 2 * 0 + _ ≤ _; exact Nat.le_of_eq rfl) (hb hby own_d6_4) (fun _ _ => ⟨rfl, e32, (by decide : 0 + 0 ≤ _), (by decide : 0 + 0 ≤ _)⟩)
       dsimp only [Pt.U, Pt.locs, Pt.cells, Pt.slots] at X37 l37 y37 z37 st37 hQ37
       subst l37 y37 z37
       obtain ⟨rfl, N37q, e37⟩ := hQ37
       have N38 := Fr.app N33 N37q
       refine own_by (T' := T37) (g' := (mkF m 7 #[.val (.ref x), .val (.int 0), .val (.int 3)] [.int 3, .int 3])) (fun _ kt_ => st37.trans kt_) ?_
       refine own_by (T' := T37) (g' := (mkF m 36 #[.val (.ref x), .val (.int 0), .val (.int 3)] [])) (fun _ kt_ => XS.icmpYes X37.here hx rfl (pc0 := 7) (pc' := 36) rfl (hb hby own_d6_7) rfl (XT.ii_ge_t (by decide)) (by decide) (by decide) kt_) ?_
       refine own_by (T' := T37) (g' := (mkF m 37 #[.val (.ref x), .val (.int 0), .val (.int 3)] [.int 3])) (fun _ kt_ => XS.iloadN X37.here hx rfl (hb hby own_d6_36) rfl kt_) ?_
       refine own_by (T' := T37) (g' := (mkF m 38 #[.val (.ref x), .val (.int 0), .val (.int 3)] [.int 0, .int 3])) (fun _ kt_ => XS.iloadN X37.here hx rfl (hb hby own_d6_37) rfl kt_) ?_
       refine own_by (T' := T37) (g' := (mkF m 39 #[.val (.ref x), .val (.int 0), .val (.int 3)] [(.int ((3 : Int32) - (0 : Int32)))])) (fun _ kt_ => XS.isub X37.here hx rfl (hb hby own_d6_38) rfl kt_) ?_
       rw [show ((3 : Int32) - (0 : Int32)) = (3 : Int32) from by decide]
       have hr39 : (3 : Int32) = (if c0 < (48 : Int32) then (0 : Int32) else (if (57 : Int32) < c0 then (0 : Int32) else (if c1 < (48 : Int32) then (1 : Int32) else (if (57 : Int32) < c1 then (1 : Int32) else (if c2 < (48 : Int32) then (2 : Int32) else (if (57 : Int32) < c2 then (2 : Int32) else (3 : Int32))))))) := by simp [hc5, hc10, hc17, hc22, hc29, hc34]
       obtain ⟨fs40, hr40, hrun40, hended40, hW40, hsame40⟩ := X37.leave (v := some (.int 3)) (fun h => by rw [Bd.returns] at h; cases h)
       refine ⟨_, _, retOut X37 hx (t := .int) Bd.returns rfl (Or.inl ⟨rfl, Or.inl rfl, _, rfl⟩) (hb hby own_d6_39) hr40, hrun40, hended40, _, _, rfl, ?_, ⟨_, rfl⟩, hW40, hsame40.mono (by decide) (by decide)⟩
       show Q_rmD_3_0 Z zC vF hvF x t kB c0 c1 c2 h0 n0 _ T37.heap _
       exact ⟨(congrArg (fun z => some (Value.int z)) hr39), N38, e37⟩
theorem own_ef_rmD_4_1 (m : MethodId) (x0 : Addr) (x1 : Int32) : entryFrame m #[.ref x0, .int x1] 3 = mkF m 0 #[.val (.ref x0), .val (.int x1), .unset] [] := by first | (simp [entryFrame, mkF, argsToLocals, Value.category]; done) | rfl
def Q_rmD_4_1 (Z : State) (zC : Int32) (vF : Value) (hvF : vF.isRef = true) (x : Addr) (t : Addr) (kB : ClassId) (c0 : Int32) (c1 : Int32) (c2 : Int32) (c3 : Int32) (h0 : Heap) (n0 : Nat) (vv_ : Option Value) (hh_ : Heap) (LL_ : List Loc) : Prop := vv_ = some (.int (if c1 < (48 : Int32) then (0 : Int32) else (if (57 : Int32) < c1 then (0 : Int32) else (if c2 < (48 : Int32) then (1 : Int32) else (if (57 : Int32) < c2 then (1 : Int32) else (if c3 < (48 : Int32) then (2 : Int32) else (if (57 : Int32) < c3 then (2 : Int32) else (3 : Int32)))))))) ∧ Fr n0 LL_ ∧ hh_ = h0
set_option maxRecDepth 65536 in
set_option maxHeartbeats 40000000 in
theorem rmD_4_1 (l : Launch) (Z : State) (a0 : Array Value) (hw : ∀ d ∈ tables_1, d.before a0 Z = true) (ws : List Jvm.Cond) (zC : Int32) (vF : Value) (hvF : vF.isRef = true) (GS : Glob Z zC vF hvF) (x : Addr) (t : Addr) (kB : ClassId) (c0 : Int32) (c1 : Int32) (c2 : Int32) (c3 : Int32) (h0 : Heap) (n0 : Nat) (Z0 : n0 ≤ h0.size) (O0 : Old Z n0 h0) (E_x : Exa Z h0 x "java/lang/String") (Fv : Fld Z h0 x "java/lang/String" "value" "[B" (.ref t)) (Fc : Fld Z h0 x "java/lang/String" "coder" "B" (.int 0)) (Vt : Arv Z h0 t kB .byte (4 : Int32) [(.int c0.toInt8.toInt32), (.int c1.toInt8.toInt32), (.int c2.toInt8.toInt32), (.int c3.toInt8.toInt32)] (.int 0)) (ok0 : okF c0) (ok1 : okF c1) (ok2 : okF c2) (ok3 : okF c3) :
  MetFree l (⟨"com/example/vestledger/vestledger/journal/JournalDecimals", "digitsFrom", "(Ljava/lang/String;I)I"⟩ : MethodName) (head1 (Jvm.Cond.code (⟨"com/example/vestledger/vestledger/journal/JournalDecimals", "digitsFrom", "(Ljava/lang/String;I)I"⟩ : MethodName) prog_21_method_5_code 3 (some .int) :: ws) (⟨4, 0, 0, 53⟩ : Room)) (fun aa_ UU_ => aa_ = #[.ref x, .int 1] ∧ Z.Warmed39 UU_.vm ∧ UU_.heap = h0) (fun _ _ _ _ _ => True) (fun _ UU_ oo_ UV_ => ∃ vv_ LL_, oo_ = .returned vv_ ∧ Q_rmD_4_1 Z zC vF hvF x t kB c0 c1 c2 c3 h0 n0 vv_ UV_.heap LL_ ∧ FrameEnd UU_ oo_ UV_ LL_ (⟨4, 0, 0, 53⟩ : Room).cells (⟨4, 0, 0, 53⟩ : Room).slots) := by
 refine MetFree.of_bodySF (plainFor_of_name own_pn_com_example_vestledger_vestledger_journal_JournalDecimals) hisR ?_
 intro p e s m args below meth c s₁ Bd hml0 hP hK
 obtain ⟨rfl, hZ, hh⟩ := hP
 have hx := Bd.exec
 have hby := Bd.bytes
 have hml : c.maxLocals = 3 := hml0
 have hown : s.vm.findClass "com/example/vestledger/vestledger/journal/JournalDecimals" = some m.cls := findClass_of_methodNamed Bd.named
 have hnm := (name_of_methodNamed Bd.named Bd.method).1
 have X0 : Stand p l e (⟨4, 0, 0, 53⟩ : Room) s m #[.ref x, .int 1] below meth c s₁ [] 0 0 := Stand.of_body Bd
 have e0 : s₁.heap = h0 := by rw [← hh, Bd.state]; rfl
 have N0 := Fr.nil n0
 have hn0 : Z.heap.size = n0 := O0.1
 have KT0 : Keep h0 h0 [] := Keep.refl _ _
 refine own_enter (Φ := fun oo_ UV_ => ∃ vv_ LL_, oo_ = .returned vv_ ∧ Q_rmD_4_1 Z zC vF hvF x t kB c0 c1 c2 c3 h0 n0 vv_ UV_.heap LL_ ∧ FrameEnd s oo_ UV_ LL_ (⟨4, 0, 0, 53⟩ : Room).cells (⟨4, 0, 0, 53⟩ : Room).slots) (own_ef_rmD_4_1 m x (1 : Int32)) ?_
 refine own_by (T' := s₁) (g' := (mkF m 1 #[.val (.ref x), .val (.int 1), .unset] [.int 1])) (fun _ kt_ => XS.iloadN X0.here hx rfl (hb hby own_d6_0) rfl kt_) ?_
 refine own_by (T' := s₁) (g' := (mkF m 2 #[.val (.ref x), .val (.int 1), .val (.int 1)] [])) (fun _ kt_ => XS.istoreN X0.here hx rfl (hb hby own_d6_1) rfl (l' := #[.val (.ref x), .val (.int 1), .val (.int 1)]) rfl kt_) ?_
 refine own_by (T' := s₁) (g' := (mkF m 3 #[.val (.ref x), .val (.int 1), .val (.int 1)] [.int 1])) (fun _ kt_ => XS.iloadN X0.here hx rfl (hb hby own_d6_2) rfl kt_) ?_
 refine own_by (T' := s₁) (g' := (mkF m 4 #[.val (.ref x), .val (.int 1), .val (.int 1)] [.ref x, .int 1])) (fun _ kt_ => XS.aloadN X0.here hx rfl (hb hby own_d6_3) rfl rfl kt_) ?_
 obtain ⟨cq1, kq1, q1a, q1b, q1c⟩ := isOf hZ e0 E_x
 obtain ⟨_, _, ⟨T1, L1, k1, n1⟩, -, X1, ⟨Lc1, hQ1, l1, y1, z1⟩, st1⟩ := X0.virtualBack hx (y := (⟨"java/lang/String", "length", "()I"⟩ : MethodName)) (z := (⟨"java/lang/String", "length", "()I"⟩ : MethodName)) hown (mvT hZ (ww hw 33 rfl)) (mvT hZ (ww hw 34 rfl)) (notFace_of_selects (args := #[]) (mvT hZ (ww hw 36 rfl))) (mvT hZ (ww hw 36 rfl)) (mvT hZ (ww hw 35 rfl)) (by decide) (backOf (W := 1) (rmLen_4 l Z a0 hw [] zC vF hvF GS x t kB c0 c1 c2 c3 h0 n0 (by omega) O0 E_x Fv Fc Vt) hZ (ww hw 37 rfl) (ww hw 9 rfl) (by decide) (by decide)) q1a q1c (g := (mkF m 4 #[.val (.ref x), .val (.int 1), .val (.int 1)] [.ref x, .int 1])) rfl (by rw [hml]; rfl) (Steps.refl _) (argsL := []) (rest := [.int 1]) (lenOf own_pd_10 rfl) rfl (by show 2 * 0 + _ ≤ _; exact Nat.le_of_eq rfl) (hb hby own_d6_4) (fun _ _ => ⟨rfl, e0, (by decide : 0 + 0 ≤ _), (by decide : 0 + 0 ≤ _)⟩)
 dsimp only [Pt.U, Pt.locs, Pt.cells, Pt.slots] at X1 l1 y1 z1 st1 hQ1
 subst l1 y1 z1
 obtain ⟨rfl, N1q, e1⟩ := hQ1
 have N2 := Fr.app N0 N1q
 refine own_by (T' := T1) (g' := (mkF m 7 #[.val (.ref x), .val (.int 1), .val (.int 1)] [.int 4, .int 1])) (fun _ kt_ => st1.trans kt_) ?_
 refine own_by (T' := T1) (g' := (mkF m 10 #[.val (.ref x), .val (.int 1), .val (.int 1)] [])) (fun _ kt_ => XS.icmpNo X1.here hx rfl (hb hby own_d6_7) rfl (XT.ii_ge_f (by decide)) kt_) ?_
 refine own_by (T' := T1) (g' := (mkF m 11 #[.val (.ref x), .val (.int 1), .val (.int 1)] [.ref x])) (fun _ kt_ => XS.aloadN X1.here hx rfl (hb hby own_d6_10) rfl rfl kt_) ?_
 refine own_by (T' := T1) (g' := (mkF m 12 #[.val (.ref x), .val (.int 1), .val (.int 1)] [.int 1, .ref x])) (fun _ kt_ => XS.iloadN X1.here hx rfl (hb hby own_d6_11) rfl kt_) ?_
 obtain ⟨cq3, kq3, q3a, q3b, q3c⟩ := isOf hZ e1 E_x
 obtain ⟨_, _, ⟨T3, L3, k3, n3⟩, -, X3, ⟨Lc3, hQ3, l3, y3, z3⟩, st3⟩ := X1.virtualBack hx (y := (⟨"java/lang/String", "charAt", "(I)C"⟩ : MethodName)) (z := (⟨"java/lang/String", "charAt", "(I)C"⟩ : MethodName)) hown (mvT hZ (ww hw 57 rfl)) (mvT hZ (ww hw 58 rfl)) (notFace_of_selects (args := #[]) (mvT hZ (ww hw 60 rfl))) (mvT hZ (ww hw 60 rfl)) (mvT hZ (ww hw 59 rfl)) (by decide) (backOf (W := 0) (rmChr_4_1 l Z a0 hw [] zC vF hvF GS x t kB c0 c1 c2 c3 h0 n0 (by omega) O0 E_x Fv Fc Vt ok1) hZ (ww hw 61 rfl) (ww hw 9 rfl) (by decide) (by decide)) q3a q3c (g := (mkF m 12 #[.val (.ref x), .val (.int 1), .val (.int 1)] [.int 1, .ref x])) rfl (by rw [hml]; rfl) (Steps.refl _) (argsL := [.int 1]) (rest := []) (lenOf own_pd_11 rfl) rfl (by show 2 * 0 + _ ≤ _; exact Nat.le_of_eq rfl) (hb hby own_d6_12) (fun _ _ => ⟨rfl, e1, (by decide : 0 + 0 ≤ _), (by decide : 0 + 0 ≤ _)⟩)
 dsimp only [Pt.U, Pt.locs, Pt.cells, Pt.slots] at X3 l3 y3 z3 st3 hQ3
 subst l3 y3 z3
 obtain ⟨rfl, N3q, e3⟩ := hQ3
 have N4 := Fr.app N2 N3q
 refine own_by (T' := T3) (g' := (mkF m 15 #[.val (.ref x), .val (.int 1), .val (.int 1)] [.int c1])) (fun _ kt_ => st3.trans kt_) ?_
 refine own_by (T' := T3) (g' := (mkF m 17 #[.val (.ref x), .val (.int 1), .val (.int 1)] [.int 48, .int c1])) (fun _ kt_ => XS.bipush X3.here hx rfl (hb hby own_d6_15) kt_) ?_
 by_cases hc5 : c1 < (48 : Int32)
 ·refine own_by (T' := T3) (g' := (mkF m 36 #[.val (.ref x), .val (.int 1), .val (.int 1)] [])) (fun _ kt_ => XS.icmpYes X3.here hx rfl (pc0 := 17) (pc' := 36) rfl (hb hby own_d6_17) rfl (XT.ii_lt_t hc5) (by decide) (by decide) kt_) ?_
  refine own_by (T' := T3) (g' := (mkF m 37 #[.val (.ref x), .val (.int 1), .val (.int 1)] [.int 1])) (fun _ kt_ => XS.iloadN X3.here hx rfl (hb hby own_d6_36) rfl kt_) ?_
  refine own_by (T' := T3) (g' := (mkF m 38 #[.val (.ref x), .val (.int 1), .val (.int 1)] [.int 1, .int 1])) (fun _ kt_ => XS.iloadN X3.here hx rfl (hb hby own_d6_37) rfl kt_) ?_
  refine own_by (T' := T3) (g' := (mkF m 39 #[.val (.ref x), .val (.int 1), .val (.int 1)] [(.int ((1 : Int32) - (1 : Int32)))])) (fun _ kt_ => XS.isub X3.here hx rfl (hb hby own_d6_38) rfl kt_) ?_
  rw [show ((1 : Int32) - (1 : Int32)) = (0 : Int32) from by decide]
  have hr6 : (0 : Int32) = (if c1 < (48 : Int32) then (0 : Int32) else (if (57 : Int32) < c1 then (0 : Int32) else (if c2 < (48 : Int32) then (1 : Int32) else (if (57 : Int32) < c2 then (1 : Int32) else (if c3 < (48 : Int32) then (2 : Int32) else (if (57 : Int32) < c3 then (2 : Int32) else (3 : Int32))))))) := by simp [hc5]
  obtain ⟨fs7, hr7, hrun7, hended7, hW7, hsame7⟩ := X3.leave (v := some (.int 0)) (fun h => by rw [Bd.returns] at h; cases h)
  refine ⟨_, _, retOut X3 hx (t := .int) Bd.returns rfl (Or.inl ⟨rfl, Or.inl rfl, _, rfl⟩) (hb hby own_d6_39) hr7, hrun7, hended7, _, _, rfl, ?_, ⟨_, rfl⟩, hW7, hsame7.mono (by decide) (by decide)⟩
  show Q_rmD_4_1 Z zC vF hvF x t kB c0 c1 c2 c3 h0 n0 _ T3.heap _
  exact ⟨(congrArg (fun z => some (Value.int z)) hr6), N4, e3⟩
 ·refine own_by (T' := T3) (g' := (mkF m 20 #[.val (.ref x), .val (.int 1), .val (.int 1)] [])) (fun _ kt_ => XS.icmpNo X3.here hx rfl (hb hby own_d6_17) rfl (XT.ii_lt_f hc5) kt_) ?_
  refine own_by (T' := T3) (g' := (mkF m 21 #[.val (.ref x), .val (.int 1), .val (.int 1)] [.ref x])) (fun _ kt_ => XS.aloadN X3.here hx rfl (hb hby own_d6_20) rfl rfl kt_) ?_
  refine own_by (T' := T3) (g' := (mkF m 22 #[.val (.ref x), .val (.int 1), .val (.int 1)] [.int 1, .ref x])) (fun _ kt_ => XS.iloadN X3.here hx rfl (hb hby own_d6_21) rfl kt_) ?_
  obtain ⟨cq8, kq8, q8a, q8b, q8c⟩ := isOf hZ e3 E_x
  obtain ⟨_, _, ⟨T8, L8, k8, n8⟩, -, X8, ⟨Lc8, hQ8, l8, y8, z8⟩, st8⟩ := X3.virtualBack hx (y := (⟨"java/lang/String", "charAt", "(I)C"⟩ : MethodName)) (z := (⟨"java/lang/String", "charAt", "(I)C"⟩ : MethodName)) hown (mvT hZ (ww hw 57 rfl)) (mvT hZ (ww hw 58 rfl)) (notFace_of_selects (args := #[]) (mvT hZ (ww hw 60 rfl))) (mvT hZ (ww hw 60 rfl)) (mvT hZ (ww hw 59 rfl)) (by decide) (backOf (W := 0) (rmChr_4_1 l Z a0 hw [] zC vF hvF GS x t kB c0 c1 c2 c3 h0 n0 (by omega) O0 E_x Fv Fc Vt ok1) hZ (ww hw 61 rfl) (ww hw 9 rfl) (by decide) (by decide)) q8a q8c (g := (mkF m 22 #[.val (.ref x), .val (.int 1), .val (.int 1)] [.int 1, .ref x])) rfl (by rw [hml]; rfl) (Steps.refl _) (argsL := [.int 1]) (rest := []) (lenOf own_pd_11 rfl) rfl (by show 2 * 0 + _ ≤ _; exact Nat.le_of_eq rfl) (hb hby own_d6_22) (fun _ _ => ⟨rfl, e3, (by decide : 0 + 0 ≤ _), (by decide : 0 + 0 ≤ _)⟩)
  dsimp only [Pt.U, Pt.locs, Pt.cells, Pt.slots] at X8 l8 y8 z8 st8 hQ8
  subst l8 y8 z8
  obtain ⟨rfl, N8q, e8⟩ := hQ8
  have N9 := Fr.app N4 N8q
  refine own_by (T' := T8) (g' := (mkF m 25 #[.val (.ref x), .val (.int 1), .val (.int 1)] [.int c1])) (fun _ kt_ => st8.trans kt_) ?_
  refine own_by (T' := T8) (g' := (mkF m 27 #[.val (.ref x), .val (.int 1), .val (.int 1)] [.int 57, .int c1])) (fun _ kt_ => XS.bipush X8.here hx rfl (hb hby own_d6_25) kt_) ?_
  by_cases hc10 : (57 : Int32) < c1
  ·refine own_by (T' := T8) (g' := (mkF m 36 #[.val (.ref x), .val (.int 1), .val (.int 1)] [])) (fun _ kt_ => XS.icmpYes X8.here hx rfl (pc0 := 27) (pc' := 36) rfl (hb hby own_d6_27) rfl (XT.ii_gt_t hc10) (by decide) (by decide) kt_) ?_
   refine own_by (T' := T8) (g' := (mkF m 37 #[.val (.ref x), .val (.int 1), .val (.int 1)] [.int 1])) (fun _ kt_ => XS.iloadN X8.here hx rfl (hb hby own_d6_36) rfl kt_) ?_
   refine own_by (T' := T8) (g' := (mkF m 38 #[.val (.ref x), .val (.int 1), .val (.int 1)] [.int 1, .int 1])) (fun _ kt_ => XS.iloadN X8.here hx rfl (hb hby own_d6_37) rfl kt_) ?_
   refine own_by (T' := T8) (g' := (mkF m 39 #[.val (.ref x), .val (.int 1), .val (.int 1)] [(.int ((1 : Int32) - (1 : Int32)))])) (fun _ kt_ => XS.isub X8.here hx rfl (hb hby own_d6_38) rfl kt_) ?_
   rw [show ((1 : Int32) - (1 : Int32)) = (0 : Int32) from by decide]
   have hr11 : (0 : Int32) = (if c1 < (48 : Int32) then (0 : Int32) else (if (57 : Int32) < c1 then (0 : Int32) else (if c2 < (48 : Int32) then (1 : Int32) else (if (57 : Int32) < c2 then (1 : Int32) else (if c3 < (48 : Int32) then (2 : Int32) else (if (57 : Int32) < c3 then (2 : Int32) else (3 : Int32))))))) := by simp [hc5, hc10]
   obtain ⟨fs12, hr12, hrun12, hended12, hW12, hsame12⟩ := X8.leave (v := some (.int 0)) (fun h => by rw [Bd.returns] at h; cases h)
   refine ⟨_, _, retOut X8 hx (t := .int) Bd.returns rfl (Or.inl ⟨rfl, Or.inl rfl, _, rfl⟩) (hb hby own_d6_39) hr12, hrun12, hended12, _, _, rfl, ?_, ⟨_, rfl⟩, hW12, hsame12.mono (by decide) (by decide)⟩
   show Q_rmD_4_1 Z zC vF hvF x t kB c0 c1 c2 c3 h0 n0 _ T8.heap _
   exact ⟨(congrArg (fun z => some (Value.int z)) hr11), N9, e8⟩
  ·refine own_by (T' := T8) (g' := (mkF m 30 #[.val (.ref x), .val (.int 1), .val (.int 1)] [])) (fun _ kt_ => XS.icmpNo X8.here hx rfl (hb hby own_d6_27) rfl (XT.ii_gt_f hc10) kt_) ?_
   refine own_by (T' := T8) (g' := (mkF m 33 #[.val (.ref x), .val (.int 1), .val (.int ((1 : Int32) + (1 : Int32)))] [])) (fun _ kt_ => XS.iinc X8.here hx rfl (hb hby own_d6_30) rfl (l' := #[.val (.ref x), .val (.int 1), .val (.int ((1 : Int32) + (1 : Int32)))]) rfl kt_) ?_
   rw [show ((1 : Int32) + (1 : Int32)) = (2 : Int32) from by decide]
   refine own_by (T' := T8) (g' := (mkF m 2 #[.val (.ref x), .val (.int 1), .val (.int 2)] [])) (fun _ kt_ => XS.goto X8.here hx rfl (pc0 := 33) (pc' := 2) rfl (hb hby own_d6_33) (by decide) (by decide) kt_) ?_
   refine own_by (T' := T8) (g' := (mkF m 3 #[.val (.ref x), .val (.int 1), .val (.int 2)] [.int 2])) (fun _ kt_ => XS.iloadN X8.here hx rfl (hb hby own_d6_2) rfl kt_) ?_
   refine own_by (T' := T8) (g' := (mkF m 4 #[.val (.ref x), .val (.int 1), .val (.int 2)] [.ref x, .int 2])) (fun _ kt_ => XS.aloadN X8.here hx rfl (hb hby own_d6_3) rfl rfl kt_) ?_
   obtain ⟨cq13, kq13, q13a, q13b, q13c⟩ := isOf hZ e8 E_x
   obtain ⟨_, _, ⟨T13, L13, k13, n13⟩, -, X13, ⟨Lc13, hQ13, l13, y13, z13⟩, st13⟩ := X8.virtualBack hx (y := (⟨"java/lang/String", "length", "()I"⟩ : MethodName)) (z := (⟨"java/lang/String", "length", "()I"⟩ : MethodName)) hown (mvT hZ (ww hw 33 rfl)) (mvT hZ (ww hw 34 rfl)) (notFace_of_selects (args := #[]) (mvT hZ (ww hw 36 rfl))) (mvT hZ (ww hw 36 rfl)) (mvT hZ (ww hw 35 rfl)) (by decide) (backOf (W := 1) (rmLen_4 l Z a0 hw [] zC vF hvF GS x t kB c0 c1 c2 c3 h0 n0 (by omega) O0 E_x Fv Fc Vt) hZ (ww hw 37 rfl) (ww hw 9 rfl) (by decide) (by decide)) q13a q13c (g := (mkF m 4 #[.val (.ref x), .val (.int 1), .val (.int 2)] [.ref x, .int 2])) rfl (by rw [hml]; rfl) (Steps.refl _) (argsL := []) (rest := [.int 2]) (lenOf own_pd_10 rfl) rfl (by show 2 * 0 + _ ≤ _; exact Nat.le_of_eq rfl) (hb hby own_d6_4) (fun _ _ => ⟨rfl, e8, (by decide : 0 + 0 ≤ _), (by decide : 0 + 0 ≤ _)⟩)
   dsimp only [Pt.U, Pt.locs, Pt.cells, Pt.slots] at X13 l13 y13 z13 st13 hQ13
   subst l13 y13 z13
   obtain ⟨rfl, N13q, e13⟩ := hQ13
   have N14 := Fr.app N9 N13q
   refine own_by (T' := T13) (g' := (mkF m 7 #[.val (.ref x), .val (.int 1), .val (.int 2)] [.int 4, .int 2])) (fun _ kt_ => st13.trans kt_) ?_
   refine own_by (T' := T13) (g' := (mkF m 10 #[.val (.ref x), .val (.int 1), .val (.int 2)] [])) (fun _ kt_ => XS.icmpNo X13.here hx rfl (hb hby own_d6_7) rfl (XT.ii_ge_f (by decide)) kt_) ?_
   refine own_by (T' := T13) (g' := (mkF m 11 #[.val (.ref x), .val (.int 1), .val (.int 2)] [.ref x])) (fun _ kt_ => XS.aloadN X13.here hx rfl (hb hby own_d6_10) rfl rfl kt_) ?_
   refine own_by (T' := T13) (g' := (mkF m 12 #[.val (.ref x), .val (.int 1), .val (.int 2)] [.int 2, .ref x])) (fun _ kt_ => XS.iloadN X13.here hx rfl (hb hby own_d6_11) rfl kt_) ?_
   obtain ⟨cq15, kq15, q15a, q15b, q15c⟩ := isOf hZ e13 E_x
   obtain ⟨_, _, ⟨T15, L15, k15, n15⟩, -, X15, ⟨Lc15, hQ15, l15, y15, z15⟩, st15⟩ := X13.virtualBack hx (y := (⟨"java/lang/String", "charAt", "(I)C"⟩ : MethodName)) (z := (⟨"java/lang/String", "charAt", "(I)C"⟩ : MethodName)) hown (mvT hZ (ww hw 57 rfl)) (mvT hZ (ww hw 58 rfl)) (notFace_of_selects (args := #[]) (mvT hZ (ww hw 60 rfl))) (mvT hZ (ww hw 60 rfl)) (mvT hZ (ww hw 59 rfl)) (by decide) (backOf (W := 0) (rmChr_4_2 l Z a0 hw [] zC vF hvF GS x t kB c0 c1 c2 c3 h0 n0 (by omega) O0 E_x Fv Fc Vt ok2) hZ (ww hw 61 rfl) (ww hw 9 rfl) (by decide) (by decide)) q15a q15c (g := (mkF m 12 #[.val (.ref x), .val (.int 1), .val (.int 2)] [.int 2, .ref x])) rfl (by rw [hml]; rfl) (Steps.refl _) (argsL := [.int 2]) (rest := []) (lenOf own_pd_11 rfl) rfl (by show 2 * 0 + _ ≤ _; exact Nat.le_of_eq rfl) (hb hby own_d6_12) (fun _ _ => ⟨rfl, e13, (by decide : 0 + 0 ≤ _), (by decide : 0 + 0 ≤ _)⟩)
   dsimp only [Pt.U, Pt.locs, Pt.cells, Pt.slots] at X15 l15 y15 z15 st15 hQ15
   subst l15 y15 z15
   obtain ⟨rfl, N15q, e15⟩ := hQ15
   have N16 := Fr.app N14 N15q
   refine own_by (T' := T15) (g' := (mkF m 15 #[.val (.ref x), .val (.int 1), .val (.int 2)] [.int c2])) (fun _ kt_ => st15.trans kt_) ?_
   refine own_by (T' := T15) (g' := (mkF m 17 #[.val (.ref x), .val (.int 1), .val (.int 2)] [.int 48, .int c2])) (fun _ kt_ => XS.bipush X15.here hx rfl (hb hby own_d6_15) kt_) ?_
   by_cases hc17 : c2 < (48 : Int32)
   ·refine own_by (T' := T15) (g' := (mkF m 36 #[.val (.ref x), .val (.int 1), .val (.int 2)] [])) (fun _ kt_ => XS.icmpYes X15.here hx rfl (pc0 := 17) (pc' := 36) rfl (hb hby own_d6_17) rfl (XT.ii_lt_t hc17) (by decide) (by decide) kt_) ?_
    refine own_by (T' := T15) (g' := (mkF m 37 #[.val (.ref x), .val (.int 1), .val (.int 2)] [.int 2])) (fun _ kt_ => XS.iloadN X15.here hx rfl (hb hby own_d6_36) rfl kt_) ?_
    refine own_by (T' := T15) (g' := (mkF m 38 #[.val (.ref x), .val (.int 1), .val (.int 2)] [.int 1, .int 2])) (fun _ kt_ => XS.iloadN X15.here hx rfl (hb hby own_d6_37) rfl kt_) ?_
    refine own_by (T' := T15) (g' := (mkF m 39 #[.val (.ref x), .val (.int 1), .val (.int 2)] [(.int ((2 : Int32) - (1 : Int32)))])) (fun _ kt_ => XS.isub X15.here hx rfl (hb hby own_d6_38) rfl kt_) ?_
    rw [show ((2 : Int32) - (1 : Int32)) = (1 : Int32) from by decide]
    have hr18 : (1 : Int32) = (if c1 < (48 : Int32) then (0 : Int32) else (if (57 : Int32) < c1 then (0 : Int32) else (if c2 < (48 : Int32) then (1 : Int32) else (if (57 : Int32) < c2 then (1 : Int32) else (if c3 < (48 : Int32) then (2 : Int32) else (if (57 : Int32) < c3 then (2 : Int32) else (3 : Int32))))))) := by simp [hc5, hc10, hc17]
    obtain ⟨fs19, hr19, hrun19, hended19, hW19, hsame19⟩ := X15.leave (v := some (.int 1)) (fun h => by rw [Bd.returns] at h; cases h)
    refine ⟨_, _, retOut X15 hx (t := .int) Bd.returns rfl (Or.inl ⟨rfl, Or.inl rfl, _, rfl⟩) (hb hby own_d6_39) hr19, hrun19, hended19, _, _, rfl, ?_, ⟨_, rfl⟩, hW19, hsame19.mono (by decide) (by decide)⟩
    show Q_rmD_4_1 Z zC vF hvF x t kB c0 c1 c2 c3 h0 n0 _ T15.heap _
    exact ⟨(congrArg (fun z => some (Value.int z)) hr18), N16, e15⟩
   ·refine own_by (T' := T15) (g' := (mkF m 20 #[.val (.ref x), .val (.int 1), .val (.int 2)] [])) (fun _ kt_ => XS.icmpNo X15.here hx rfl (hb hby own_d6_17) rfl (XT.ii_lt_f hc17) kt_) ?_
    refine own_by (T' := T15) (g' := (mkF m 21 #[.val (.ref x), .val (.int 1), .val (.int 2)] [.ref x])) (fun _ kt_ => XS.aloadN X15.here hx rfl (hb hby own_d6_20) rfl rfl kt_) ?_
    refine own_by (T' := T15) (g' := (mkF m 22 #[.val (.ref x), .val (.int 1), .val (.int 2)] [.int 2, .ref x])) (fun _ kt_ => XS.iloadN X15.here hx rfl (hb hby own_d6_21) rfl kt_) ?_
    obtain ⟨cq20, kq20, q20a, q20b, q20c⟩ := isOf hZ e15 E_x
    obtain ⟨_, _, ⟨T20, L20, k20, n20⟩, -, X20, ⟨Lc20, hQ20, l20, y20, z20⟩, st20⟩ := X15.virtualBack hx (y := (⟨"java/lang/String", "charAt", "(I)C"⟩ : MethodName)) (z := (⟨"java/lang/String", "charAt", "(I)C"⟩ : MethodName)) hown (mvT hZ (ww hw 57 rfl)) (mvT hZ (ww hw 58 rfl)) (notFace_of_selects (args := #[]) (mvT hZ (ww hw 60 rfl))) (mvT hZ (ww hw 60 rfl)) (mvT hZ (ww hw 59 rfl)) (by decide) (backOf (W := 0) (rmChr_4_2 l Z a0 hw [] zC vF hvF GS x t kB c0 c1 c2 c3 h0 n0 (by omega) O0 E_x Fv Fc Vt ok2) hZ (ww hw 61 rfl) (ww hw 9 rfl) (by decide) (by decide)) q20a q20c (g := (mkF m 22 #[.val (.ref x), .val (.int 1), .val (.int 2)] [.int 2, .ref x])) rfl (by rw [hml]; rfl) (Steps.refl _) (argsL := [.int 2]) (rest := []) (lenOf own_pd_11 rfl) rfl (by show 2 * 0 + _ ≤ _; exact Nat.le_of_eq rfl) (hb hby own_d6_22) (fun _ _ => ⟨rfl, e15, (by decide : 0 + 0 ≤ _), (by decide : 0 + 0 ≤ _)⟩)
    dsimp only [Pt.U, Pt.locs, Pt.cells, Pt.slots] at X20 l20 y20 z20 st20 hQ20
    subst l20 y20 z20
    obtain ⟨rfl, N20q, e20⟩ := hQ20
    have N21 := Fr.app N16 N20q
    refine own_by (T' := T20) (g' := (mkF m 25 #[.val (.ref x), .val (.int 1), .val (.int 2)] [.int c2])) (fun _ kt_ => st20.trans kt_) ?_
    refine own_by (T' := T20) (g' := (mkF m 27 #[.val (.ref x), .val (.int 1), .val (.int 2)] [.int 57, .int c2])) (fun _ kt_ => XS.bipush X20.here hx rfl (hb hby own_d6_25) kt_) ?_
    by_cases hc22 : (57 : Int32) < c2
    ·refine own_by (T' := T20) (g' := (mkF m 36 #[.val (.ref x), .val (.int 1), .val (.int 2)] [])) (fun _ kt_ => XS.icmpYes X20.here hx rfl (pc0 := 27) (pc' := 36) rfl (hb hby own_d6_27) rfl (XT.ii_gt_t hc22) (by decide) (by decide) kt_) ?_
     refine own_by (T' := T20) (g' := (mkF m 37 #[.val (.ref x), .val (.int 1), .val (.int 2)] [.int 2])) (fun _ kt_ => XS.iloadN X20.here hx rfl (hb hby own_d6_36) rfl kt_) ?_
     refine own_by (T' := T20) (g' := (mkF m 38 #[.val (.ref x), .val (.int 1), .val (.int 2)] [.int 1, .int 2])) (fun _ kt_ => XS.iloadN X20.here hx rfl (hb hby own_d6_37) rfl kt_) ?_
     refine own_by (T' := T20) (g' := (mkF m 39 #[.val (.ref x), .val (.int 1), .val (.int 2)] [(.int ((2 : Int32) - (1 : Int32)))])) (fun _ kt_ => XS.isub X20.here hx rfl (hb hby own_d6_38) rfl kt_) ?_
     rw [show ((2 : Int32) - (1 : Int32)) = (1 : Int32) from by decide]
     have hr23 : (1 : Int32) = (if c1 < (48 : Int32) then (0 : Int32) else (if (57 : Int32) < c1 then (0 : Int32) else (if c2 < (48 : Int32) then (1 : Int32) else (if (57 : Int32) < c2 then (1 : Int32) else (if c3 < (48 : Int32) then (2 : Int32) else (if (57 : Int32) < c3 then (2 : Int32) else (3 : Int32))))))) := by simp [hc5, hc10, hc17, hc22]
     obtain ⟨fs24, hr24, hrun24, hended24, hW24, hsame24⟩ := X20.leave (v := some (.int 1)) (fun h => by rw [Bd.returns] at h; cases h)
     refine ⟨_, _, retOut X20 hx (t := .int) Bd.returns rfl (Or.inl ⟨rfl, Or.inl rfl, _, rfl⟩) (hb hby own_d6_39) hr24, hrun24, hended24, _, _, rfl, ?_, ⟨_, rfl⟩, hW24, hsame24.mono (by decide) (by decide)⟩
     show Q_rmD_4_1 Z zC vF hvF x t kB c0 c1 c2 c3 h0 n0 _ T20.heap _
     exact ⟨(congrArg (fun z => some (Value.int z)) hr23), N21, e20⟩
    ·refine own_by (T' := T20) (g' := (mkF m 30 #[.val (.ref x), .val (.int 1), .val (.int 2)] [])) (fun _ kt_ => XS.icmpNo X20.here hx rfl (hb hby own_d6_27) rfl (XT.ii_gt_f hc22) kt_) ?_
     refine own_by (T' := T20) (g' := (mkF m 33 #[.val (.ref x), .val (.int 1), .val (.int ((2 : Int32) + (1 : Int32)))] [])) (fun _ kt_ => XS.iinc X20.here hx rfl (hb hby own_d6_30) rfl (l' := #[.val (.ref x), .val (.int 1), .val (.int ((2 : Int32) + (1 : Int32)))]) rfl kt_) ?_
     rw [show ((2 : Int32) + (1 : Int32)) = (3 : Int32) from by decide]
     refine own_by (T' := T20) (g' := (mkF m 2 #[.val (.ref x), .val (.int 1), .val (.int 3)] [])) (fun _ kt_ => XS.goto X20.here hx rfl (pc0 := 33) (pc' := 2) rfl (hb hby own_d6_33) (by decide) (by decide) kt_) ?_
     refine own_by (T' := T20) (g' := (mkF m 3 #[.val (.ref x), .val (.int 1), .val (.int 3)] [.int 3])) (fun _ kt_ => XS.iloadN X20.here hx rfl (hb hby own_d6_2) rfl kt_) ?_
     refine own_by (T' := T20) (g' := (mkF m 4 #[.val (.ref x), .val (.int 1), .val (.int 3)] [.ref x, .int 3])) (fun _ kt_ => XS.aloadN X20.here hx rfl (hb hby own_d6_3) rfl rfl kt_) ?_
     obtain ⟨cq25, kq25, q25a, q25b, q25c⟩ := isOf hZ e20 E_x
     obtain ⟨_, _, ⟨T25, L25, k25, n25⟩, -, X25, ⟨Lc25, hQ25, l25, y25, z25⟩, st25⟩ := X20.virtualBack hx (y := (⟨"java/lang/String", "length", "()I"⟩ : MethodName)) (z := (⟨"java/lang/String", "length", "()I"⟩ : MethodName)) hown (mvT hZ (ww hw 33 rfl)) (mvT hZ (ww hw 34 rfl)) (notFace_of_selects (args := #[]) (mvT hZ (ww hw 36 rfl))) (mvT hZ (ww hw 36 rfl)) (mvT hZ (ww hw 35 rfl)) (by decide) (backOf (W := 1) (rmLen_4 l Z a0 hw [] zC vF hvF GS x t kB c0 c1 c2 c3 h0 n0 (by omega) O0 E_x Fv Fc Vt) hZ (ww hw 37 rfl) (ww hw 9 rfl) (by decide) (by decide)) q25a q25c (g := (mkF m 4 #[.val (.ref x), .val (.int 1), .val (.int 3)] [.ref x, .int 3])) rfl (by rw [hml]; rfl) (Steps.refl _) (argsL := []) (rest := [.int 3]) (lenOf own_pd_10 rfl) rfl (by show 2 * 0 + _ ≤ _; exact Nat.le_of_eq rfl) (hb hby own_d6_4) (fun _ _ => ⟨rfl, e20, (by decide : 0 + 0 ≤ _), (by decide : 0 + 0 ≤ _)⟩)
     dsimp only [Pt.U, Pt.locs, Pt.cells, Pt.slots] at X25 l25 y25 z25 st25 hQ25
     subst l25 y25 z25
     obtain ⟨rfl, N25q, e25⟩ := hQ25
     have N26 := Fr.app N21 N25q
     refine own_by (T' := T25) (g' := (mkF m 7 #[.val (.ref x), .val (.int 1), .val (.int 3)] [.int 4, .int 3])) (fun _ kt_ => st25.trans kt_) ?_
     refine own_by (T' := T25) (g' := (mkF m 10 #[.val (.ref x), .val (.int 1), .val (.int 3)] [])) (fun _ kt_ => XS.icmpNo X25.here hx rfl (hb hby own_d6_7) rfl (XT.ii_ge_f (by decide)) kt_) ?_
     refine own_by (T' := T25) (g' := (mkF m 11 #[.val (.ref x), .val (.int 1), .val (.int 3)] [.ref x])) (fun _ kt_ => XS.aloadN X25.here hx rfl (hb hby own_d6_10) rfl rfl kt_) ?_
     refine own_by (T' := T25) (g' := (mkF m 12 #[.val (.ref x), .val (.int 1), .val (.int 3)] [.int 3, .ref x])) (fun _ kt_ => XS.iloadN X25.here hx rfl (hb hby own_d6_11) rfl kt_) ?_
     obtain ⟨cq27, kq27, q27a, q27b, q27c⟩ := isOf hZ e25 E_x
     obtain ⟨_, _, ⟨T27, L27, k27, n27⟩, -, X27, ⟨Lc27, hQ27, l27, y27, z27⟩, st27⟩ := X25.virtualBack hx (y := (⟨"java/lang/String", "charAt", "(I)C"⟩ : MethodName)) (z := (⟨"java/lang/String", "charAt", "(I)C"⟩ : MethodName)) hown (mvT hZ (ww hw 57 rfl)) (mvT hZ (ww hw 58 rfl)) (notFace_of_selects (args := #[]) (mvT hZ (ww hw 60 rfl))) (mvT hZ (ww hw 60 rfl)) (mvT hZ (ww hw 59 rfl)) (by decide) (backOf (W := 0) (rmChr_4_3 l Z a0 hw [] zC vF hvF GS x t kB c0 c1 c2 c3 h0 n0 (by omega) O0 E_x Fv Fc Vt ok3) hZ (ww hw 61 rfl) (ww hw 9 rfl) (by decide) (by decide)) q27a q27c (g := (mkF m 12 #[.val (.ref x), .val (.int 1), .val (.int 3)] [.int 3, .ref x])) rfl (by rw [hml]; rfl) (Steps.refl _) (argsL := [.int 3]) (rest := []) (lenOf own_pd_11 rfl) rfl (by show 2 * 0 + _ ≤ _; exact Nat.le_of_eq rfl) (hb hby own_d6_12) (fun _ _ => ⟨rfl, e25, (by decide : 0 + 0 ≤ _), (by decide : 0 + 0 ≤ _)⟩)
     dsimp only [Pt.U, Pt.locs, Pt.cells, Pt.slots] at X27 l27 y27 z27 st27 hQ27
     subst l27 y27 z27
     obtain ⟨rfl, N27q, e27⟩ := hQ27
     have N28 := Fr.app N26 N27q
     refine own_by (T' := T27) (g' := (mkF m 15 #[.val (.ref x), .val (.int 1), .val (.int 3)] [.int c3])) (fun _ kt_ => st27.trans kt_) ?_
     refine own_by (T' := T27) (g' := (mkF m 17 #[.val (.ref x), .val (.int 1), .val (.int 3)] [.int 48, .int c3])) (fun _ kt_ => XS.bipush X27.here hx rfl (hb hby own_d6_15) kt_) ?_
     by_cases hc29 : c3 < (48 : Int32)
     ·refine own_by (T' := T27) (g' := (mkF m 36 #[.val (.ref x), .val (.int 1), .val (.int 3)] [])) (fun _ kt_ => XS.icmpYes X27.here hx rfl (pc0 := 17) (pc' := 36) rfl (hb hby own_d6_17) rfl (XT.ii_lt_t hc29) (by decide) (by decide) kt_) ?_
      refine own_by (T' := T27) (g' := (mkF m 37 #[.val (.ref x), .val (.int 1), .val (.int 3)] [.int 3])) (fun _ kt_ => XS.iloadN X27.here hx rfl (hb hby own_d6_36) rfl kt_) ?_
      refine own_by (T' := T27) (g' := (mkF m 38 #[.val (.ref x), .val (.int 1), .val (.int 3)] [.int 1, .int 3])) (fun _ kt_ => XS.iloadN X27.here hx rfl (hb hby own_d6_37) rfl kt_) ?_
      refine own_by (T' := T27) (g' := (mkF m 39 #[.val (.ref x), .val (.int 1), .val (.int 3)] [(.int ((3 : Int32) - (1 : Int32)))])) (fun _ kt_ => XS.isub X27.here hx rfl (hb hby own_d6_38) rfl kt_) ?_
      rw [show ((3 : Int32) - (1 : Int32)) = (2 : Int32) from by decide]
      have hr30 : (2 : Int32) = (if c1 < (48 : Int32) then (0 : Int32) else (if (57 : Int32) < c1 then (0 : Int32) else (if c2 < (48 : Int32) then (1 : Int32) else (if (57 : Int32) < c2 then (1 : Int32) else (if c3 < (48 : Int32) then (2 : Int32) else (if (57 : Int32) < c3 then (2 : Int32) else (3 : Int32))))))) := by simp [hc5, hc10, hc17, hc22, hc29]
      obtain ⟨fs31, hr31, hrun31, hended31, hW31, hsame31⟩ := X27.leave (v := some (.int 2)) (fun h => by rw [Bd.returns] at h; cases h)
      refine ⟨_, _, retOut X27 hx (t := .int) Bd.returns rfl (Or.inl ⟨rfl, Or.inl rfl, _, rfl⟩) (hb hby own_d6_39) hr31, hrun31, hended31, _, _, rfl, ?_, ⟨_, rfl⟩, hW31, hsame31.mono (by decide) (by decide)⟩
      show Q_rmD_4_1 Z zC vF hvF x t kB c0 c1 c2 c3 h0 n0 _ T27.heap _
      exact ⟨(congrArg (fun z => some (Value.int z)) hr30), N28, e27⟩
     ·refine own_by (T' := T27) (g' := (mkF m 20 #[.val (.ref x), .val (.int 1), .val (.int 3)] [])) (fun _ kt_ => XS.icmpNo X27.here hx rfl (hb hby own_d6_17) rfl (XT.ii_lt_f hc29) kt_) ?_
      refine own_by (T' := T27) (g' := (mkF m 21 #[.val (.ref x), .val (.int 1), .val (.int 3)] [.ref x])) (fun _ kt_ => XS.aloadN X27.here hx rfl (hb hby own_d6_20) rfl rfl kt_) ?_
      refine own_by (T' := T27) (g' := (mkF m 22 #[.val (.ref x), .val (.int 1), .val (.int 3)] [.int 3, .ref x])) (fun _ kt_ => XS.iloadN X27.here hx rfl (hb hby own_d6_21) rfl kt_) ?_
      obtain ⟨cq32, kq32, q32a, q32b, q32c⟩ := isOf hZ e27 E_x
      obtain ⟨_, _, ⟨T32, L32, k32, n32⟩, -, X32, ⟨Lc32, hQ32, l32, y32, z32⟩, st32⟩ := X27.virtualBack hx (y := (⟨"java/lang/String", "charAt", "(I)C"⟩ : MethodName)) (z := (⟨"java/lang/String", "charAt", "(I)C"⟩ : MethodName)) hown (mvT hZ (ww hw 57 rfl)) (mvT hZ (ww hw 58 rfl)) (notFace_of_selects (args := #[]) (mvT hZ (ww hw 60 rfl))) (mvT hZ (ww hw 60 rfl)) (mvT hZ (ww hw 59 rfl)) (by decide) (backOf (W := 0) (rmChr_4_3 l Z a0 hw [] zC vF hvF GS x t kB c0 c1 c2 c3 h0 n0 (by omega) O0 E_x Fv Fc Vt ok3) hZ (ww hw 61 rfl) (ww hw 9 rfl) (by decide) (by decide)) q32a q32c (g := (mkF m 22 #[.val (.ref x), .val (.int 1), .val (.int 3)] [.int 3, .ref x])) rfl (by rw [hml]; rfl) (Steps.refl _) (argsL := [.int 3]) (rest := []) (lenOf own_pd_11 rfl) rfl (by show 2 * 0 + _ ≤ _; exact Nat.le_of_eq rfl) (hb hby own_d6_22) (fun _ _ => ⟨rfl, e27, (by decide : 0 + 0 ≤ _), (by decide : 0 + 0 ≤ _)⟩)
      dsimp only [Pt.U, Pt.locs, Pt.cells, Pt.slots] at X32 l32 y32 z32 st32 hQ32
      subst l32 y32 z32
      obtain ⟨rfl, N32q, e32⟩ := hQ32
      have N33 := Fr.app N28 N32q
      refine own_by (T' := T32) (g' := (mkF m 25 #[.val (.ref x), .val (.int 1), .val (.int 3)] [.int c3])) (fun _ kt_ => st32.trans kt_) ?_
      refine own_by (T' := T32) (g' := (mkF m 27 #[.val (.ref x), .val (.int 1), .val (.int 3)] [.int 57, .int c3])) (fun _ kt_ => XS.bipush X32.here hx rfl (hb hby own_d6_25) kt_) ?_
      by_cases hc34 : (57 : Int32) < c3
      ·refine own_by (T' := T32) (g' := (mkF m 36 #[.val (.ref x), .val (.int 1), .val (.int 3)] [])) (fun _ kt_ => XS.icmpYes X32.here hx rfl (pc0 := 27) (pc' := 36) rfl (hb hby own_d6_27) rfl (XT.ii_gt_t hc34) (by decide) (by decide) kt_) ?_
       refine own_by (T' := T32) (g' := (mkF m 37 #[.val (.ref x), .val (.int 1), .val (.int 3)] [.int 3])) (fun _ kt_ => XS.iloadN X32.here hx rfl (hb hby own_d6_36) rfl kt_) ?_
       refine own_by (T' := T32) (g' := (mkF m 38 #[.val (.ref x), .val (.int 1), .val (.int 3)] [.int 1, .int 3])) (fun _ kt_ => XS.iloadN X32.here hx rfl (hb hby own_d6_37) rfl kt_) ?_
       refine own_by (T' := T32) (g' := (mkF m 39 #[.val (.ref x), .val (.int 1), .val (.int 3)] [(.int ((3 : Int32) - (1 : Int32)))])) (fun _ kt_ => XS.isub X32.here hx rfl (hb hby own_d6_38) rfl kt_) ?_
       rw [show ((3 : Int32) - (1 : Int32)) = (2 : Int32) from by decide]
       have hr35 : (2 : Int32) = (if c1 < (48 : Int32) then (0 : Int32) else (if (57 : Int32) < c1 then (0 : Int32) else (if c2 < (48 : Int32) then (1 : Int32) else (if (57 : Int32) < c2 then (1 : Int32) else (if c3 < (48 : Int32) then (2 : Int32) else (if (57 : Int32) < c3 then (2 : Int32) else (3 : Int32))))))) := by simp [hc5, hc10, hc17, hc22, hc29, hc34]
       obtain ⟨fs36, hr36, hrun36, hended36, hW36, hsame36⟩ := X32.leave (v := some (.int 2)) (fun h => by rw [Bd.returns] at h; cases h)
       refine ⟨_, _, retOut X32 hx (t := .int) Bd.returns rfl (Or.inl ⟨rfl, Or.inl rfl, _, rfl⟩) (hb hby own_d6_39) hr36, hrun36, hended36, _, _, rfl, ?_, ⟨_, rfl⟩, hW36, hsame36.mono (by decide) (by decide)⟩
       show Q_rmD_4_1 Z zC vF hvF x t kB c0 c1 c2 c3 h0 n0 _ T32.heap _
       exact ⟨(congrArg (fun z => some (Value.int z)) hr35), N33, e32⟩
      ·refine own_by (T' := T32) (g' := (mkF m 30 #[.val (.ref x), .val (.int 1), .val (.int 3)] [])) (fun _ kt_ => XS.icmpNo X32.here hx rfl (hb hby own_d6_27) rfl (XT.ii_gt_f hc34) kt_) ?_
       refine own_by (T' := T32) (g' := (mkF m 33 #[.val (.ref x), .val (.int 1), .val (.int ((3 : Int32) + (1 : Int32)))] [])) (fun _ kt_ => XS.iinc X32.here hx rfl (hb hby own_d6_30) rfl (l' := #[.val (.ref x), .val (.int 1), .val (.int ((3 : Int32) + (1 : Int32)))]) rfl kt_) ?_
       rw [show ((3 : Int32) + (1 : Int32)) = (4 : Int32) from by decide]
       refine own_by (T' := T32) (g' := (mkF m 2 #[.val (.ref x), .val (.int 1), .val (.int 4)] [])) (fun _ kt_ => XS.goto X32.here hx rfl (pc0 := 33) (pc' := 2) rfl (hb hby own_d6_33) (by decide) (by decide) kt_) ?_
       refine own_by (T' := T32) (g' := (mkF m 3 #[.val (.ref x), .val (.int 1), .val (.int 4)] [.int 4])) (fun _ kt_ => XS.iloadN X32.here hx rfl (hb hby own_d6_2) rfl kt_) ?_
       refine own_by (T' := T32) (g' := (mkF m 4 #[.val (.ref x), .val (.int 1), .val (.int 4)] [.ref x, .int 4])) (fun _ kt_ => XS.aloadN X32.here hx rfl (hb hby own_d6_3) rfl rfl kt_) ?_
       obtain ⟨cq37, kq37, q37a, q37b, q37c⟩ := isOf hZ e32 E_x
       obtain ⟨_, _, ⟨T37, L37, k37, n37⟩, -, X37, ⟨Lc37, hQ37, l37, y37, z37⟩, st37⟩ := X32.virtualBack hx (y := (⟨"java/lang/String", "length", "()I"⟩ : MethodName)) (z := (⟨"java/lang/String", "length", "()I"⟩ : MethodName)) hown (mvT hZ (ww hw 33 rfl)) (mvT hZ (ww hw 34 rfl)) (notFace_of_selects (args := #[]) (mvT hZ (ww hw 36 rfl))) (mvT hZ (ww hw 36 rfl)) (mvT hZ (ww hw 35 rfl)) (by decide) (backOf (W := 1) (rmLen_4 l Z a0 hw [] zC vF hvF GS x t kB c0 c1 c2 c3 h0 n0 (by omega) O0 E_x Fv Fc Vt) hZ (ww hw 37 rfl) (ww hw 9 rfl) (by decide) (by decide)) q37a q37c (g := (mkF m 4 #[.val (.ref x), .val (.int 1), .val (.int 4)] [.ref x, .int 4])) rfl (by rw [hml]; rfl) (Steps.refl _) (argsL := []) (rest := [.int 4]) (lenOf own_pd_10 rfl) rfl (by show 2 * 0 + _ ≤ _; exact Nat.le_of_eq rfl) (hb hby own_d6_4) (fun _ _ => ⟨rfl, e32, (by decide : 0 + 0 ≤ _), (by decide : 0 + 0 ≤ _)⟩)
       dsimp only [Pt.U, Pt.locs, Pt.cells, Pt.slots] at X37 l37 y37 z37 st37 hQ37
       subst l37 y37 z37
       obtain ⟨rfl, N37q, e37⟩ := hQ37
       have N38 := Fr.app N33 N37q
       refine own_by (T' := T37) (g' := (mkF m 7 #[.val (.ref x), .val (.int 1), .val (.int 4)] [.int 4, .int 4])) (fun _ kt_ => st37.trans kt_) ?_
       refine own_by (T' := T37) (g' := (mkF m 36 #[.val (.ref x), .val (.int 1), .val (.int 4)] [])) (fun _ kt_ => XS.icmpYes X37.here hx rfl (pc0 := 7) (pc' := 36) rfl (hb hby own_d6_7) rfl (XT.ii_ge_t (by decide)) (by decide) (by decide) kt_) ?_
       refine own_by (T' := T37) (g' := (mkF m 37 #[.val (.ref x), .val (.int 1), .val (.int 4)] [.int 4])) (fun _ kt_ => XS.iloadN X37.here hx rfl (hb hby own_d6_36) rfl kt_) ?_
       refine own_by (T' := T37) (g' := (mkF m 38 #[.val (.ref x), .val (.int 1), .val (.int 4)] [.int 1, .int 4])) (fun _ kt_ => XS.iloadN X37.here hx rfl (hb hby own_d6_37) rfl kt_) ?_
       refine own_by (T' := T37) (g' := (mkF m 39 #[.val (.ref x), .val (.int 1), .val (.int 4)] [(.int ((4 : Int32) - (1 : Int32)))])) (fun _ kt_ => XS.isub X37.here hx rfl (hb hby own_d6_38) rfl kt_) ?_
       rw [show ((4 : Int32) - (1 : Int32)) = (3 : Int32) from by decide]
       have hr39 : (3 : Int32) = (if c1 < (48 : Int32) then (0 : Int32) else (if (57 : Int32) < c1 then (0 : Int32) else (if c2 < (48 : Int32) then (1 : Int32) else (if (57 : Int32) < c2 then (1 : Int32) else (if c3 < (48 : Int32) then (2 : Int32) else (if (57 : Int32) < c3 then (2 : Int32) else (3 : Int32))))))) := by simp [hc5, hc10, hc17, hc22, hc29, hc34]
       obtain ⟨fs40, hr40, hrun40, hended40, hW40, hsame40⟩ := X37.leave (v := some (.int 3)) (fun h => by rw [Bd.returns] at h; cases h)
       refine ⟨_, _, retOut X37 hx (t := .int) Bd.returns rfl (Or.inl ⟨rfl, Or.inl rfl, _, rfl⟩) (hb hby own_d6_39) hr40, hrun40, hended40, _, _, rfl, ?_, ⟨_, rfl⟩, hW40, hsame40.mono (by decide) (by decide)⟩
       show Q_rmD_4_1 Z zC vF hvF x t kB c0 c1 c2 c3 h0 n0 _ T37.heap _
       exact ⟨(congrArg (fun z => some (Value.int z)) hr39), N38, e37⟩
theorem own_ef_rmD_2_0 (m : MethodId) (x0 : Addr) (x1 : Int32) : entryFrame m #[.ref x0, .int x1] 3 = mkF m 0 #[.val (.ref x0), .val (.int x1), .unset] [] := by first | (simp [entryFrame, mkF, argsToLocals, Value.category]; done) | rfl
def Q_rmD_2_0 (Z : State) (zC : Int32) (vF : Value) (hvF : vF.isRef = true) (x : Addr) (t : Addr) (kB : ClassId) (c0 : Int32) (c1 : Int32) (h0 : Heap) (n0 : Nat) (vv_ : Option Value) (hh_ : Heap) (LL_ : List Loc) : Prop := vv_ = some (.int (if c0 < (48 : Int32) then (0 : Int32) else (if (57 : Int32) < c0 then (0 : Int32) else (if c1 < (48 : Int32) then (1 : Int32) else (if (57 : Int32) < c1 then (1 : Int32) else (2 : Int32)))))) ∧ Fr n0 LL_ ∧ hh_ = h0
set_option maxRecDepth 65536 in
set_option maxHeartbeats 40000000 in
theorem rmD_2_0 (l : Launch) (Z : State) (a0 : Array Value) (hw : ∀ d ∈ tables_1, d.before a0 Z = true) (ws : List Jvm.Cond) (zC : Int32) (vF : Value) (hvF : vF.isRef = true) (GS : Glob Z zC vF hvF) (x : Addr) (t : Addr) (kB : ClassId) (c0 : Int32) (c1 : Int32) (h0 : Heap) (n0 : Nat) (Z0 : n0 ≤ h0.size) (O0 : Old Z n0 h0) (E_x : Exa Z h0 x "java/lang/String") (Fv : Fld Z h0 x "java/lang/String" "value" "[B" (.ref t)) (Fc : Fld Z h0 x "java/lang/String" "coder" "B" (.int 0)) (Vt : Arv Z h0 t kB .byte (2 : Int32) [(.int c0.toInt8.toInt32), (.int c1.toInt8.toInt32)] (.int 0)) (ok0 : okF c0) (ok1 : okF c1) :
  MetFree l (⟨"com/example/vestledger/vestledger/journal/JournalDecimals", "digitsFrom", "(Ljava/lang/String;I)I"⟩ : MethodName) (head1 (Jvm.Cond.code (⟨"com/example/vestledger/vestledger/journal/JournalDecimals", "digitsFrom", "(Ljava/lang/String;I)I"⟩ : MethodName) prog_21_method_5_code 3 (some .int) :: ws) (⟨4, 0, 0, 53⟩ : Room)) (fun aa_ UU_ => aa_ = #[.ref x, .int 0] ∧ Z.Warmed39 UU_.vm ∧ UU_.heap = h0) (fun _ _ _ _ _ => True) (fun _ UU_ oo_ UV_ => ∃ vv_ LL_, oo_ = .returned vv_ ∧ Q_rmD_2_0 Z zC vF hvF x t kB c0 c1 h0 n0 vv_ UV_.heap LL_ ∧ FrameEnd UU_ oo_ UV_ LL_ (⟨4, 0, 0, 53⟩ : Room).cells (⟨4, 0, 0, 53⟩ : Room).slots) := by
 refine MetFree.of_bodySF (plainFor_of_name own_pn_com_example_vestledger_vestledger_journal_JournalDecimals) hisR ?_
 intro p e s m args below meth c s₁ Bd hml0 hP hK
 obtain ⟨rfl, hZ, hh⟩ := hP
 have hx := Bd.exec
 have hby := Bd.bytes
 have hml : c.maxLocals = 3 := hml0
 have hown : s.vm.findClass "com/example/vestledger/vestledger/journal/JournalDecimals" = some m.cls := findClass_of_methodNamed Bd.named
 have hnm := (name_of_methodNamed Bd.named Bd.method).1
 have X0 : Stand p l e (⟨4, 0, 0, 53⟩ : Room) s m #[.ref x, .int 0] below meth c s₁ [] 0 0 := Stand.of_body Bd
 have e0 : s₁.heap = h0 := by rw [← hh, Bd.state]; rfl
 have N0 := Fr.nil n0
 have hn0 : Z.heap.size = n0 := O0.1
 have KT0 : Keep h0 h0 [] := Keep.refl _ _
 refine own_enter (Φ := fun oo_ UV_ => ∃ vv_ LL_, oo_ = .returned vv_ ∧ Q_rmD_2_0 Z zC vF hvF x t kB c0 c1 h0 n0 vv_ UV_.heap LL_ ∧ FrameEnd s oo_ UV_ LL_ (⟨4, 0, 0, 53⟩ : Room).cells (⟨4, 0, 0, 53⟩ : Room).slots) (own_ef_rmD_2_0 m x (0 : Int32)) ?_
 refine own_by (T' := s₁) (g' := (mkF m 1 #[.val (.ref x), .val (.int 0), .unset] [.int 0])) (fun _ kt_ => XS.iloadN X0.here hx rfl (hb hby own_d6_0) rfl kt_) ?_
 refine own_by (T' := s₁) (g' := (mkF m 2 #[.val (.ref x), .val (.int 0), .val (.int 0)] [])) (fun _ kt_ => XS.istoreN X0.here hx rfl (hb hby own_d6_1) rfl (l' := #[.val (.ref x), .val (.int 0), .val (.int 0)]) rfl kt_) ?_
 refine own_by (T' := s₁) (g' := (mkF m 3 #[.val (.ref x), .val (.int 0), .val (.int 0)] [.int 0])) (fun _ kt_ => XS.iloadN X0.here hx rfl (hb hby own_d6_2) rfl kt_) ?_
 refine own_by (T' := s₁) (g' := (mkF m 4 #[.val (.ref x), .val (.int 0), .val (.int 0)] [.ref x, .int 0])) (fun _ kt_ => XS.aloadN X0.here hx rfl (hb hby own_d6_3) rfl rfl kt_) ?_
 obtain ⟨cq1, kq1, q1a, q1b, q1c⟩ := isOf hZ e0 E_x
 obtain ⟨_, _, ⟨T1, L1, k1, n1⟩, -, X1, ⟨Lc1, hQ1, l1, y1, z1⟩, st1⟩ := X0.virtualBack hx (y := (⟨"java/lang/String", "length", "()I"⟩ : MethodName)) (z := (⟨"java/lang/String", "length", "()I"⟩ : MethodName)) hown (mvT hZ (ww hw 33 rfl)) (mvT hZ (ww hw 34 rfl)) (notFace_of_selects (args := #[]) (mvT hZ (ww hw 36 rfl))) (mvT hZ (ww hw 36 rfl)) (mvT hZ (ww hw 35 rfl)) (by decide) (backOf (W := 1) (rmLen_2 l Z a0 hw [] zC vF hvF GS x t kB c0 c1 h0 n0 (by omega) O0 E_x Fv Fc Vt) hZ (ww hw 37 rfl) (ww hw 9 rfl) (by decide) (by decide)) q1a q1c (g := (mkF m 4 #[.val (.ref x), .val (.int 0), .val (.int 0)] [.ref x, .int 0])) rfl (by rw [hml]; rfl) (Steps.refl _) (argsL := []) (rest := [.int 0]) (lenOf own_pd_10 rfl) rfl (by show 2 * 0 + _ ≤ _; exact Nat.le_of_eq rfl) (hb hby own_d6_4) (fun _ _ => ⟨rfl, e0, (by decide : 0 + 0 ≤ _), (by decide : 0 + 0 ≤ _)⟩)
 dsimp only [Pt.U, Pt.locs, Pt.cells, Pt.slots] at X1 l1 y1 z1 st1 hQ1
 subst l1 y1 z1
 obtain ⟨rfl, N1q, e1⟩ := hQ1
 have N2 := Fr.app N0 N1q
 refine own_by (T' := T1) (g' := (mkF m 7 #[.val (.ref x), .val (.int 0), .val (.int 0)] [.int 2, .int 0])) (fun _ kt_ => st1.trans kt_) ?_
 refine own_by (T' := T1) (g' := (mkF m 10 #[.val (.ref x), .val (.int 0), .val (.int 0)] [])) (fun _ kt_ => XS.icmpNo X1.here hx rfl (hb hby own_d6_7) rfl (XT.ii_ge_f (by decide)) kt_) ?_
 refine own_by (T' := T1) (g' := (mkF m 11 #[.val (.ref x), .val (.int 0), .val (.int 0)] [.ref x])) (fun _ kt_ => XS.aloadN X1.here hx rfl (hb hby own_d6_10) rfl rfl kt_) ?_
 refine own_by (T' := T1) (g' := (mkF m 12 #[.val (.ref x), .val (.int 0), .val (.int 0)] [.int 0, .ref x])) (fun _ kt_ => XS.iloadN X1.here hx rfl (hb hby own_d6_11) rfl kt_) ?_
 obtain ⟨cq3, kq3, q3a, q3b, q3c⟩ := isOf hZ e1 E_x
 obtain ⟨_, _, ⟨T3, L3, k3, n3⟩, -, X3, ⟨Lc3, hQ3, l3, y3, z3⟩, st3⟩ := X1.virtualBack hx (y := (⟨"java/lang/String", "charAt", "(I)C"⟩ : MethodName)) (z := (⟨"java/lang/String", "charAt", "(I)C"⟩ : MethodName)) hown (mvT hZ (ww hw 57 rfl)) (mvT hZ (ww hw 58 rfl)) (notFace_of_selects (args := #[]) (mvT hZ (ww hw 60 rfl))) (mvT hZ (ww hw 60 rfl)) (mvT hZ (ww hw 59 rfl)) (by decide) (backOf (W := 0) (rmChr_2_0 l Z a0 hw [] zC vF hvF GS x t kB c0 c1 h0 n0 (by omega) O0 E_x Fv Fc Vt ok0) hZ (ww hw 61 rfl) (ww hw 9 rfl) (by decide) (by decide)) q3a q3c (g := (mkF m 12 #[.val (.ref x), .val (.int 0), .val (.int 0)] [.int 0, .ref x])) rfl (by rw [hml]; rfl) (Steps.refl _) (argsL := [.int 0]) (rest := []) (lenOf own_pd_11 rfl) rfl (by show 2 * 0 + _ ≤ _; exact Nat.le_of_eq rfl) (hb hby own_d6_12) (fun _ _ => ⟨rfl, e1, (by decide : 0 + 0 ≤ _), (by decide : 0 + 0 ≤ _)⟩)
 dsimp only [Pt.U, Pt.locs, Pt.cells, Pt.slots] at X3 l3 y3 z3 st3 hQ3
 subst l3 y3 z3
 obtain ⟨rfl, N3q, e3⟩ := hQ3
 have N4 := Fr.app N2 N3q
 refine own_by (T' := T3) (g' := (mkF m 15 #[.val (.ref x), .val (.int 0), .val (.int 0)] [.int c0])) (fun _ kt_ => st3.trans kt_) ?_
 refine own_by (T' := T3) (g' := (mkF m 17 #[.val (.ref x), .val (.int 0), .val (.int 0)] [.int 48, .int c0])) (fun _ kt_ => XS.bipush X3.here hx rfl (hb hby own_d6_15) kt_) ?_
 by_cases hc5 : c0 < (48 : Int32)
 ·refine own_by (T' := T3) (g' := (mkF m 36 #[.val (.ref x), .val (.int 0), .val (.int 0)] [])) (fun _ kt_ => XS.icmpYes X3.here hx rfl (pc0 := 17) (pc' := 36) rfl (hb hby own_d6_17) rfl (XT.ii_lt_t hc5) (by decide) (by decide) kt_) ?_
  refine own_by (T' := T3) (g' := (mkF m 37 #[.val (.ref x), .val (.int 0), .val (.int 0)] [.int 0])) (fun _ kt_ => XS.iloadN X3.here hx rfl (hb hby own_d6_36) rfl kt_) ?_
  refine own_by (T' := T3) (g' := (mkF m 38 #[.val (.ref x), .val (.int 0), .val (.int 0)] [.int 0, .int 0])) (fun _ kt_ => XS.iloadN X3.here hx rfl (hb hby own_d6_37) rfl kt_) ?_
  refine own_by (T' := T3) (g' := (mkF m 39 #[.val (.ref x), .val (.int 0), .val (.int 0)] [(.int ((0 : Int32) - (0 : Int32)))])) (fun _ kt_ => XS.isub X3.here hx rfl (hb hby own_d6_38) rfl kt_) ?_
  rw [show ((0 : Int32) - (0 : Int32)) = (0 : Int32) from by decide]
  have hr6 : (0 : Int32) = (if c0 < (48 : Int32) then (0 : Int32) else (if (57 : Int32) < c0 then (0 : Int32) else (if c1 < (48 : Int32) then (1 : Int32) else (if (57 : Int32) < c1 then (1 : Int32) else (2 : Int32))))) := by simp [hc5]
  obtain ⟨fs7, hr7, hrun7, hended7, hW7, hsame7⟩ := X3.leave (v := some (.int 0)) (fun h => by rw [Bd.returns] at h; cases h)
  refine ⟨_, _, retOut X3 hx (t := .int) Bd.returns rfl (Or.inl ⟨rfl, Or.inl rfl, _, rfl⟩) (hb hby own_d6_39) hr7, hrun7, hended7, _, _, rfl, ?_, ⟨_, rfl⟩, hW7, hsame7.mono (by decide) (by decide)⟩
  show Q_rmD_2_0 Z zC vF hvF x t kB c0 c1 h0 n0 _ T3.heap _
  exact ⟨(congrArg (fun z => some (Value.int z)) hr6), N4, e3⟩
 ·refine own_by (T' := T3) (g' := (mkF m 20 #[.val (.ref x), .val (.int 0), .val (.int 0)] [])) (fun _ kt_ => XS.icmpNo X3.here hx rfl (hb hby own_d6_17) rfl (XT.ii_lt_f hc5) kt_) ?_
  refine own_by (T' := T3) (g' := (mkF m 21 #[.val (.ref x), .val (.int 0), .val (.int 0)] [.ref x])) (fun _ kt_ => XS.aloadN X3.here hx rfl (hb hby own_d6_20) rfl rfl kt_) ?_
  refine own_by (T' := T3) (g' := (mkF m 22 #[.val (.ref x), .val (.int 0), .val (.int 0)] [.int 0, .ref x])) (fun _ kt_ => XS.iloadN X3.here hx rfl (hb hby own_d6_21) rfl kt_) ?_
  obtain ⟨cq8, kq8, q8a, q8b, q8c⟩ := isOf hZ e3 E_x
  obtain ⟨_, _, ⟨T8, L8, k8, n8⟩, -, X8, ⟨Lc8, hQ8, l8, y8, z8⟩, st8⟩ := X3.virtualBack hx (y := (⟨"java/lang/String", "charAt", "(I)C"⟩ : MethodName)) (z := (⟨"java/lang/String", "charAt", "(I)C"⟩ : MethodName)) hown (mvT hZ (ww hw 57 rfl)) (mvT hZ (ww hw 58 rfl)) (notFace_of_selects (args := #[]) (mvT hZ (ww hw 60 rfl))) (mvT hZ (ww hw 60 rfl)) (mvT hZ (ww hw 59 rfl)) (by decide) (backOf (W := 0) (rmChr_2_0 l Z a0 hw [] zC vF hvF GS x t kB c0 c1 h0 n0 (by omega) O0 E_x Fv Fc Vt ok0) hZ (ww hw 61 rfl) (ww hw 9 rfl) (by decide) (by decide)) q8a q8c (g := (mkF m 22 #[.val (.ref x), .val (.int 0), .val (.int 0)] [.int 0, .ref x])) rfl (by rw [hml]; rfl) (Steps.refl _) (argsL := [.int 0]) (rest := []) (lenOf own_pd_11 rfl) rfl (by show 2 * 0 + _ ≤ _; exact Nat.le_of_eq rfl) (hb hby own_d6_22) (fun _ _ => ⟨rfl, e3, (by decide : 0 + 0 ≤ _), (by decide : 0 + 0 ≤ _)⟩)
  dsimp only [Pt.U, Pt.locs, Pt.cells, Pt.slots] at X8 l8 y8 z8 st8 hQ8
  subst l8 y8 z8
  obtain ⟨rfl, N8q, e8⟩ := hQ8
  have N9 := Fr.app N4 N8q
  refine own_by (T' := T8) (g' := (mkF m 25 #[.val (.ref x), .val (.int 0), .val (.int 0)] [.int c0])) (fun _ kt_ => st8.trans kt_) ?_
  refine own_by (T' := T8) (g' := (mkF m 27 #[.val (.ref x), .val (.int 0), .val (.int 0)] [.int 57, .int c0])) (fun _ kt_ => XS.bipush X8.here hx rfl (hb hby own_d6_25) kt_) ?_
  by_cases hc10 : (57 : Int32) < c0
  ·refine own_by (T' := T8) (g' := (mkF m 36 #[.val (.ref x), .val (.int 0), .val (.int 0)] [])) (fun _ kt_ => XS.icmpYes X8.here hx rfl (pc0 := 27) (pc' := 36) rfl (hb hby own_d6_27) rfl (XT.ii_gt_t hc10) (by decide) (by decide) kt_) ?_
   refine own_by (T' := T8) (g' := (mkF m 37 #[.val (.ref x), .val (.int 0), .val (.int 0)] [.int 0])) (fun _ kt_ => XS.iloadN X8.here hx rfl (hb hby own_d6_36) rfl kt_) ?_
   refine own_by (T' := T8) (g' := (mkF m 38 #[.val (.ref x), .val (.int 0), .val (.int 0)] [.int 0, .int 0])) (fun _ kt_ => XS.iloadN X8.here hx rfl (hb hby own_d6_37) rfl kt_) ?_
   refine own_by (T' := T8) (g' := (mkF m 39 #[.val (.ref x), .val (.int 0), .val (.int 0)] [(.int ((0 : Int32) - (0 : Int32)))])) (fun _ kt_ => XS.isub X8.here hx rfl (hb hby own_d6_38) rfl kt_) ?_
   rw [show ((0 : Int32) - (0 : Int32)) = (0 : Int32) from by decide]
   have hr11 : (0 : Int32) = (if c0 < (48 : Int32) then (0 : Int32) else (if (57 : Int32) < c0 then (0 : Int32) else (if c1 < (48 : Int32) then (1 : Int32) else (if (57 : Int32) < c1 then (1 : Int32) else (2 : Int32))))) := by simp [hc5, hc10]
   obtain ⟨fs12, hr12, hrun12, hended12, hW12, hsame12⟩ := X8.leave (v := some (.int 0)) (fun h => by rw [Bd.returns] at h; cases h)
   refine ⟨_, _, retOut X8 hx (t := .int) Bd.returns rfl (Or.inl ⟨rfl, Or.inl rfl, _, rfl⟩) (hb hby own_d6_39) hr12, hrun12, hended12, _, _, rfl, ?_, ⟨_, rfl⟩, hW12, hsame12.mono (by decide) (by decide)⟩
   show Q_rmD_2_0 Z zC vF hvF x t kB c0 c1 h0 n0 _ T8.heap _
   exact ⟨(congrArg (fun z => some (Value.int z)) hr11), N9, e8⟩
  ·refine own_by (T' := T8) (g' := (mkF m 30 #[.val (.ref x), .val (.int 0), .val (.int 0)] [])) (fun _ kt_ => XS.icmpNo X8.here hx rfl (hb hby own_d6_27) rfl (XT.ii_gt_f hc10) kt_) ?_
   refine own_by (T' := T8) (g' := (mkF m 33 #[.val (.ref x), .val (.int 0), .val (.int ((0 : Int32) + (1 : Int32)))] [])) (fun _ kt_ => XS.iinc X8.here hx rfl (hb hby own_d6_30) rfl (l' := #[.val (.ref x), .val (.int 0), .val (.int ((0 : Int32) + (1 : Int32)))]) rfl kt_) ?_
   rw [show ((0 : Int32) + (1 : Int32)) = (1 : Int32) from by decide]
   refine own_by (T' := T8) (g' := (mkF m 2 #[.val (.ref x), .val (.int 0), .val (.int 1)] [])) (fun _ kt_ => XS.goto X8.here hx rfl (pc0 := 33) (pc' := 2) rfl (hb hby own_d6_33) (by decide) (by decide) kt_) ?_
   refine own_by (T' := T8) (g' := (mkF m 3 #[.val (.ref x), .val (.int 0), .val (.int 1)] [.int 1])) (fun _ kt_ => XS.iloadN X8.here hx rfl (hb hby own_d6_2) rfl kt_) ?_
   refine own_by (T' := T8) (g' := (mkF m 4 #[.val (.ref x), .val (.int 0), .val (.int 1)] [.ref x, .int 1])) (fun _ kt_ => XS.aloadN X8.here hx rfl (hb hby own_d6_3) rfl rfl kt_) ?_
   obtain ⟨cq13, kq13, q13a, q13b, q13c⟩ := isOf hZ e8 E_x
   obtain ⟨_, _, ⟨T13, L13, k13, n13⟩, -, X13, ⟨Lc13, hQ13, l13, y13, z13⟩, st13⟩ := X8.virtualBack hx (y := (⟨"java/lang/String", "length", "()I"⟩ : MethodName)) (z := (⟨"java/lang/String", "length", "()I"⟩ : MethodName)) hown (mvT hZ (ww hw 33 rfl)) (mvT hZ (ww hw 34 rfl)) (notFace_of_selects (args := #[]) (mvT hZ (ww hw 36 rfl))) (mvT hZ (ww hw 36 rfl)) (mvT hZ (ww hw 35 rfl)) (by decide) (backOf (W := 1) (rmLen_2 l Z a0 hw [] zC vF hvF GS x t kB c0 c1 h0 n0 (by omega) O0 E_x Fv Fc Vt) hZ (ww hw 37 rfl) (ww hw 9 rfl) (by decide) (by decide)) q13a q13c (g := (mkF m 4 #[.val (.ref x), .val (.int 0), .val (.int 1)] [.ref x, .int 1])) rfl (by rw [hml]; rfl) (Steps.refl _) (argsL := []) (rest := [.int 1]) (lenOf own_pd_10 rfl) rfl (by show 2 * 0 + _ ≤ _; exact Nat.le_of_eq rfl) (hb hby own_d6_4) (fun _ _ => ⟨rfl, e8, (by decide : 0 + 0 ≤ _), (by decide : 0 + 0 ≤ _)⟩)
   dsimp only [Pt.U, Pt.locs, Pt.cells, Pt.slots] at X13 l13 y13 z13 st13 hQ13
   subst l13 y13 z13
   obtain ⟨rfl, N13q, e13⟩ := hQ13
   have N14 := Fr.app N9 N13q
   refine own_by (T' := T13) (g' := (mkF m 7 #[.val (.ref x), .val (.int 0), .val (.int 1)] [.int 2, .int 1])) (fun _ kt_ => st13.trans kt_) ?_
   refine own_by (T' := T13) (g' := (mkF m 10 #[.val (.ref x), .val (.int 0), .val (.int 1)] [])) (fun _ kt_ => XS.icmpNo X13.here hx rfl (hb hby own_d6_7) rfl (XT.ii_ge_f (by decide)) kt_) ?_
   refine own_by (T' := T13) (g' := (mkF m 11 #[.val (.ref x), .val (.int 0), .val (.int 1)] [.ref x])) (fun _ kt_ => XS.aloadN X13.here hx rfl (hb hby own_d6_10) rfl rfl kt_) ?_
   refine own_by (T' := T13) (g' := (mkF m 12 #[.val (.ref x), .val (.int 0), .val (.int 1)] [.int 1, .ref x])) (fun _ kt_ => XS.iloadN X13.here hx rfl (hb hby own_d6_11) rfl kt_) ?_
   obtain ⟨cq15, kq15, q15a, q15b, q15c⟩ := isOf hZ e13 E_x
   obtain ⟨_, _, ⟨T15, L15, k15, n15⟩, -, X15, ⟨Lc15, hQ15, l15, y15, z15⟩, st15⟩ := X13.virtualBack hx (y := (⟨"java/lang/String", "charAt", "(I)C"⟩ : MethodName)) (z := (⟨"java/lang/String", "charAt", "(I)C"⟩ : MethodName)) hown (mvT hZ (ww hw 57 rfl)) (mvT hZ (ww hw 58 rfl)) (notFace_of_selects (args := #[]) (mvT hZ (ww hw 60 rfl))) (mvT hZ (ww hw 60 rfl)) (mvT hZ (ww hw 59 rfl)) (by decide) (backOf (W := 0) (rmChr_2_1 l Z a0 hw [] zC vF hvF GS x t kB c0 c1 h0 n0 (by omega) O0 E_x Fv Fc Vt ok1) hZ (ww hw 61 rfl) (ww hw 9 rfl) (by decide) (by decide)) q15a q15c (g := (mkF m 12 #[.val (.ref x), .val (.int 0), .val (.int 1)] [.int 1, .ref x])) rfl (by rw [hml]; rfl) (Steps.refl _) (argsL := [.int 1]) (rest := []) (lenOf own_pd_11 rfl) rfl (by show 2 * 0 + _ ≤ _; exact Nat.le_of_eq rfl) (hb hby own_d6_12) (fun _ _ => ⟨rfl, e13, (by decide : 0 + 0 ≤ _), (by decide : 0 + 0 ≤ _)⟩)
   dsimp only [Pt.U, Pt.locs, Pt.cells, Pt.slots] at X15 l15 y15 z15 st15 hQ15
   subst l15 y15 z15
   obtain ⟨rfl, N15q, e15⟩ := hQ15
   have N16 := Fr.app N14 N15q
   refine own_by (T' := T15) (g' := (mkF m 15 #[.val (.ref x), .val (.int 0), .val (.int 1)] [.int c1])) (fun _ kt_ => st15.trans kt_) ?_
   refine own_by (T' := T15) (g' := (mkF m 17 #[.val (.ref x), .val (.int 0), .val (.int 1)] [.int 48, .int c1])) (fun _ kt_ => XS.bipush X15.here hx rfl (hb hby own_d6_15) kt_) ?_
   by_cases hc17 : c1 < (48 : Int32)
   ·refine own_by (T' := T15) (g' := (mkF m 36 #[.val (.ref x), .val (.int 0), .val (.int 1)] [])) (fun _ kt_ => XS.icmpYes X15.here hx rfl (pc0 := 17) (pc' := 36) rfl (hb hby own_d6_17) rfl (XT.ii_lt_t hc17) (by decide) (by decide) kt_) ?_
    refine own_by (T' := T15) (g' := (mkF m 37 #[.val (.ref x), .val (.int 0), .val (.int 1)] [.int 1])) (fun _ kt_ => XS.iloadN X15.here hx rfl (hb hby own_d6_36) rfl kt_) ?_
    refine own_by (T' := T15) (g' := (mkF m 38 #[.val (.ref x), .val (.int 0), .val (.int 1)] [.int 0, .int 1])) (fun _ kt_ => XS.iloadN X15.here hx rfl (hb hby own_d6_37) rfl kt_) ?_
    refine own_by (T' := T15) (g' := (mkF m 39 #[.val (.ref x), .val (.int 0), .val (.int 1)] [(.int ((1 : Int32) - (0 : Int32)))])) (fun _ kt_ => XS.isub X15.here hx rfl (hb hby own_d6_38) rfl kt_) ?_
    rw [show ((1 : Int32) - (0 : Int32)) = (1 : Int32) from by decide]
    have hr18 : (1 : Int32) = (if c0 < (48 : Int32) then (0 : Int32) else (if (57 : Int32) < c0 then (0 : Int32) else (if c1 < (48 : Int32) then (1 : Int32) else (if (57 : Int32) < c1 then (1 : Int32) else (2 : Int32))))) := by simp [hc5, hc10, hc17]
    obtain ⟨fs19, hr19, hrun19, hended19, hW19, hsame19⟩ := X15.leave (v := some (.int 1)) (fun h => by rw [Bd.returns] at h; cases h)
    refine ⟨_, _, retOut X15 hx (t := .int) Bd.returns rfl (Or.inl ⟨rfl, Or.inl rfl, _, rfl⟩) (hb hby own_d6_39) hr19, hrun19, hended19, _, _, rfl, ?_, ⟨_, rfl⟩, hW19, hsame19.mono (by decide) (by decide)⟩
    show Q_rmD_2_0 Z zC vF hvF x t kB c0 c1 h0 n0 _ T15.heap _
    exact ⟨(congrArg (fun z => some (Value.int z)) hr18), N16, e15⟩
   ·refine own_by (T' := T15) (g' := (mkF m 20 #[.val (.ref x), .val (.int 0), .val (.int 1)] [])) (fun _ kt_ => XS.icmpNo X15.here hx rfl (hb hby own_d6_17) rfl (XT.ii_lt_f hc17) kt_) ?_
    refine own_by (T' := T15) (g' := (mkF m 21 #[.val (.ref x), .val (.int 0), .val (.int 1)] [.ref x])) (fun _ kt_ => XS.aloadN X15.here hx rfl (hb hby own_d6_20) rfl rfl kt_) ?_
    refine own_by (T' := T15) (g' := (mkF m 22 #[.val (.ref x), .val (.int 0), .val (.int 1)] [.int 1, .ref x])) (fun _ kt_ => XS.iloadN X15.here hx rfl (hb hby own_d6_21) rfl kt_) ?_
    obtain ⟨cq20, kq20, q20a, q20b, q20c⟩ := isOf hZ e15 E_x
    obtain ⟨_, _, ⟨T20, L20, k20, n20⟩, -, X20, ⟨Lc20, hQ20, l20, y20, z20⟩, st20⟩ := X15.virtualBack hx (y := (⟨"java/lang/String", "charAt", "(I)C"⟩ : MethodName)) (z := (⟨"java/lang/String", "charAt", "(I)C"⟩ : MethodName)) hown (mvT hZ (ww hw 57 rfl)) (mvT hZ (ww hw 58 rfl)) (notFace_of_selects (args := #[]) (mvT hZ (ww hw 60 rfl))) (mvT hZ (ww hw 60 rfl)) (mvT hZ (ww hw 59 rfl)) (by decide) (backOf (W := 0) (rmChr_2_1 l Z a0 hw [] zC vF hvF GS x t kB c0 c1 h0 n0 (by omega) O0 E_x Fv Fc Vt ok1) hZ (ww hw 61 rfl) (ww hw 9 rfl) (by decide) (by decide)) q20a q20c (g := (mkF m 22 #[.val (.ref x), .val (.int 0), .val (.int 1)] [.int 1, .ref x])) rfl (by rw [hml]; rfl) (Steps.refl _) (argsL := [.int 1]) (rest := []) (lenOf own_pd_11 rfl) rfl (by show 2 * 0 + _ ≤ _; exact Nat.le_of_eq rfl) (hb hby own_d6_22) (fun _ _ => ⟨rfl, e15, (by decide : 0 + 0 ≤ _), (by decide : 0 + 0 ≤ _)⟩)
    dsimp only [Pt.U, Pt.locs, Pt.cells, Pt.slots] at X20 l20 y20 z20 st20 hQ20
    subst l20 y20 z20
    obtain ⟨rfl, N20q, e20⟩ := hQ20
    have N21 := Fr.app N16 N20q
    refine own_by (T' := T20) (g' := (mkF m 25 #[.val (.ref x), .val (.int 0), .val (.int 1)] [.int c1])) (fun _ kt_ => st20.trans kt_) ?_
    refine own_by (T' := T20) (g' := (mkF m 27 #[.val (.ref x), .val (.int 0), .val (.int 1)] [.int 57, .int c1])) (fun _ kt_ => XS.bipush X20.here hx rfl (hb hby own_d6_25) kt_) ?_
    by_cases hc22 : (57 : Int32) < c1
    ·refine own_by (T' := T20) (g' := (mkF m 36 #[.val (.ref x), .val (.int 0), .val (.int 1)] [])) (fun _ kt_ => XS.icmpYes X20.here hx rfl (pc0 := 27) (pc' := 36) rfl (hb hby own_d6_27) rfl (XT.ii_gt_t hc22) (by decide) (by decide) kt_) ?_
     refine own_by (T' := T20) (g' := (mkF m 37 #[.val (.ref x), .val (.int 0), .val (.int 1)] [.int 1])) (fun _ kt_ => XS.iloadN X20.here hx rfl (hb hby own_d6_36) rfl kt_) ?_
     refine own_by (T' := T20) (g' := (mkF m 38 #[.val (.ref x), .val (.int 0), .val (.int 1)] [.int 0, .int 1])) (fun _ kt_ => XS.iloadN X20.here hx rfl (hb hby own_d6_37) rfl kt_) ?_
     refine own_by (T' := T20) (g' := (mkF m 39 #[.val (.ref x), .val (.int 0), .val (.int 1)] [(.int ((1 : Int32) - (0 : Int32)))])) (fun _ kt_ => XS.isub X20.here hx rfl (hb hby own_d6_38) rfl kt_) ?_
     rw [show ((1 : Int32) - (0 : Int32)) = (1 : Int32) from by decide]
     have hr23 : (1 : Int32) = (if c0 < (48 : Int32) then (0 : Int32) else (if (57 : Int32) < c0 then (0 : Int32) else (if c1 < (48 : Int32) then (1 : Int32) else (if (57 : Int32) < c1 then (1 : Int32) else (2 : Int32))))) := by simp [hc5, hc10, hc17, hc22]
     obtain ⟨fs24, hr24, hrun24, hended24, hW24, hsame24⟩ := X20.leave (v := some (.int 1)) (fun h => by rw [Bd.returns] at h; cases h)
     refine ⟨_, _, retOut X20 hx (t := .int) Bd.returns rfl (Or.inl ⟨rfl, Or.inl rfl, _, rfl⟩) (hb hby own_d6_39) hr24, hrun24, hended24, _, _, rfl, ?_, ⟨_, rfl⟩, hW24, hsame24.mono (by decide) (by decide)⟩
     show Q_rmD_2_0 Z zC vF hvF x t kB c0 c1 h0 n0 _ T20.heap _
     exact ⟨(congrArg (fun z => some (Value.int z)) hr23), N21, e20⟩
    ·refine own_by (T' := T20) (g' := (mkF m 30 #[.val (.ref x), .val (.int 0), .val (.int 1)] [])) (fun _ kt_ => XS.icmpNo X20.here hx rfl (hb hby own_d6_27) rfl (XT.ii_gt_f hc22) kt_) ?_
     refine own_by (T' := T20) (g' := (mkF m 33 #[.val (.ref x), .val (.int 0), .val (.int ((1 : Int32) + (1 : Int32)))] [])) (fun _ kt_ => XS.iinc X20.here hx rfl (hb hby own_d6_30) rfl (l' := #[.val (.ref x), .val (.int 0), .val (.int ((1 : Int32) + (1 : Int32)))]) rfl kt_) ?_
     rw [show ((1 : Int32) + (1 : Int32)) = (2 : Int32) from by decide]
     refine own_by (T' := T20) (g' := (mkF m 2 #[.val (.ref x), .val (.int 0), .val (.int 2)] [])) (fun _ kt_ => XS.goto X20.here hx rfl (pc0 := 33) (pc' := 2) rfl (hb hby own_d6_33) (by decide) (by decide) kt_) ?_
     refine own_by (T' := T20) (g' := (mkF m 3 #[.val (.ref x), .val (.int 0), .val (.int 2)] [.int 2])) (fun _ kt_ => XS.iloadN X20.here hx rfl (hb hby own_d6_2) rfl kt_) ?_
     refine own_by (T' := T20) (g' := (mkF m 4 #[.val (.ref x), .val (.int 0), .val (.int 2)] [.ref x, .int 2])) (fun _ kt_ => XS.aloadN X20.here hx rfl (hb hby own_d6_3) rfl rfl kt_) ?_
     obtain ⟨cq25, kq25, q25a, q25b, q25c⟩ := isOf hZ e20 E_x
     obtain ⟨_, _, ⟨T25, L25, k25, n25⟩, -, X25, ⟨Lc25, hQ25, l25, y25, z25⟩, st25⟩ := X20.virtualBack hx (y := (⟨"java/lang/String", "length", "()I"⟩ : MethodName)) (z := (⟨"java/lang/String", "length", "()I"⟩ : MethodName)) hown (mvT hZ (ww hw 33 rfl)) (mvT hZ (ww hw 34 rfl)) (notFace_of_selects (args := #[]) (mvT hZ (ww hw 36 rfl))) (mvT hZ (ww hw 36 rfl)) (mvT hZ (ww hw 35 rfl)) (by decide) (backOf (W := 1) (rmLen_2 l Z a0 hw [] zC vF hvF GS x t kB c0 c1 h0 n0 (by omega) O0 E_x Fv Fc Vt) hZ (ww hw 37 rfl) (ww hw 9 rfl) (by decide) (by decide)) q25a q25c (g := (mkF m 4 #[.val (.ref x), .val (.int 0), .val (.int 2)] [.ref x, .int 2])) rfl (by rw [hml]; rfl) (Steps.refl _) (argsL := []) (rest := [.int 2]) (lenOf own_pd_10 rfl) rfl (by show 2 * 0 + _ ≤ _; exact Nat.le_of_eq rfl) (hb hby own_d6_4) (fun _ _ => ⟨rfl, e20, (by decide : 0 + 0 ≤ _), (by decide : 0 + 0 ≤ _)⟩)
     dsimp only [Pt.U, Pt.locs, Pt.cells, Pt.slots] at X25 l25 y25 z25 st25 hQ25
     subst l25 y25 z25
     obtain ⟨rfl, N25q, e25⟩ := hQ25
     have N26 := Fr.app N21 N25q
     refine own_by (T' := T25) (g' := (mkF m 7 #[.val (.ref x), .val (.int 0), .val (.int 2)] [.int 2, .int 2])) (fun _ kt_ => st25.trans kt_) ?_
     refine own_by (T' := T25) (g' := (mkF m 36 #[.val (.ref x), .val (.int 0), .val (.int 2)] [])) (fun _ kt_ => XS.icmpYes X25.here hx rfl (pc0 := 7) (pc' := 36) rfl (hb hby own_d6_7) rfl (XT.ii_ge_t (by decide)) (by decide) (by decide) kt_) ?_
     refine own_by (T' := T25) (g' := (mkF m 37 #[.val (.ref x), .val (.int 0), .val (.int 2)] [.int 2])) (fun _ kt_ => XS.iloadN X25.here hx rfl (hb hby own_d6_36) rfl kt_) ?_
     refine own_by (T' := T25) (g' := (mkF m 38 #[.val (.ref x), .val (.int 0), .val (.int 2)] [.int 0, .int 2])) (fun _ kt_ => XS.iloadN X25.here hx rfl (hb hby own_d6_37) rfl kt_) ?_
     refine own_by (T' := T25) (g' := (mkF m 39 #[.val (.ref x), .val (.int 0), .val (.int 2)] [(.int ((2 : Int32) - (0 : Int32)))])) (fun _ kt_ => XS.isub X25.here hx rfl (hb hby own_d6_38) rfl kt_) ?_
     rw [show ((2 : Int32) - (0 : Int32)) = (2 : Int32) from by decide]
     have hr27 : (2 : Int32) = (if c0 < (48 : Int32) then (0 : Int32) else (if (57 : Int32) < c0 then (0 : Int32) else (if c1 < (48 : Int32) then (1 : Int32) else (if (57 : Int32) < c1 then (1 : Int32) else (2 : Int32))))) := by simp [hc5, hc10, hc17, hc22]
     obtain ⟨fs28, hr28, hrun28, hended28, hW28, hsame28⟩ := X25.leave (v := some (.int 2)) (fun h => by rw [Bd.returns] at h; cases h)
     refine ⟨_, _, retOut X25 hx (t := .int) Bd.returns rfl (Or.inl ⟨rfl, Or.inl rfl, _, rfl⟩) (hb hby own_d6_39) hr28, hrun28, hended28, _, _, rfl, ?_, ⟨_, rfl⟩, hW28, hsame28.mono (by decide) (by decide)⟩
     show Q_rmD_2_0 Z zC vF hvF x t kB c0 c1 h0 n0 _ T25.heap _
     exact ⟨(congrArg (fun z => some (Value.int z)) hr27), N26, e25⟩
theorem own_ef_rmD_3_1 (m : MethodId) (x0 : Addr) (x1 : Int32) : entryFrame m #[.ref x0, .int x1] 3 = mkF m 0 #[.val (.ref x0), .val (.int x1), .unset] [] := by first | (simp [entryFrame, mkF, argsToLocals, Value.category]; done) | rfl
def Q_rmD_3_1 (Z : State) (zC : Int32) (vF : Value) (hvF : vF.isRef = true) (x : Addr) (t : Addr) (kB : ClassId) (c0 : Int32) (c1 : Int32) (c2 : Int32) (h0 : Heap) (n0 : Nat) (vv_ : Option Value) (hh_ : Heap) (LL_ : List Loc) : Prop := vv_ = some (.int (if c1 < (48 : Int32) then (0 : Int32) else (if (57 : Int32) < c1 then (0 : Int32) else (if c2 < (48 : Int32) then (1 : Int32) else (if (57 : Int32) < c2 then (1 : Int32) else (2 : Int32)))))) ∧ Fr n0 LL_ ∧ hh_ = h0
set_option maxRecDepth 65536 in
set_option maxHeartbeats 40000000 in
theorem rmD_3_1 (l : Launch) (Z : State) (a0 : Array Value) (hw : ∀ d ∈ tables_1, d.before a0 Z = true) (ws : List Jvm.Cond) (zC : Int32) (vF : Value) (hvF : vF.isRef = true) (GS : Glob Z zC vF hvF) (x : Addr) (t : Addr) (kB : ClassId) (c0 : Int32) (c1 : Int32) (c2 : Int32) (h0 : Heap) (n0 : Nat) (Z0 : n0 ≤ h0.size) (O0 : Old Z n0 h0) (E_x : Exa Z h0 x "java/lang/String") (Fv : Fld Z h0 x "java/lang/String" "value" "[B" (.ref t)) (Fc : Fld Z h0 x "java/lang/String" "coder" "B" (.int 0)) (Vt : Arv Z h0 t kB .byte (3 : Int32) [(.int c0.toInt8.toInt32), (.int c1.toInt8.toInt32), (.int c2.toInt8.toInt32)] (.int 0)) (ok0 : okF c0) (ok1 : okF c1) (ok2 : okF c2) :
  MetFree l (⟨"com/example/vestledger/vestledger/journal/JournalDecimals", "digitsFrom", "(Ljava/lang/String;I)I"⟩ : MethodName) (head1 (Jvm.Cond.code (⟨"com/example/vestledger/vestledger/journal/JournalDecimals", "digitsFrom", "(Ljava/lang/String;I)I"⟩ : MethodName) prog_21_method_5_code 3 (some .int) :: ws) (⟨4, 0, 0, 53⟩ : Room)) (fun aa_ UU_ => aa_ = #[.ref x, .int 1] ∧ Z.Warmed39 UU_.vm ∧ UU_.heap = h0) (fun _ _ _ _ _ => True) (fun _ UU_ oo_ UV_ => ∃ vv_ LL_, oo_ = .returned vv_ ∧ Q_rmD_3_1 Z zC vF hvF x t kB c0 c1 c2 h0 n0 vv_ UV_.heap LL_ ∧ FrameEnd UU_ oo_ UV_ LL_ (⟨4, 0, 0, 53⟩ : Room).cells (⟨4, 0, 0, 53⟩ : Room).slots) := by
 refine MetFree.of_bodySF (plainFor_of_name own_pn_com_example_vestledger_vestledger_journal_JournalDecimals) hisR ?_
 intro p e s m args below meth c s₁ Bd hml0 hP hK
 obtain ⟨rfl, hZ, hh⟩ := hP
 have hx := Bd.exec
 have hby := Bd.bytes
 have hml : c.maxLocals = 3 := hml0
 have hown : s.vm.findClass "com/example/vestledger/vestledger/journal/JournalDecimals" = some m.cls := findClass_of_methodNamed Bd.named
 have hnm := (name_of_methodNamed Bd.named Bd.method).1
 have X0 : Stand p l e (⟨4, 0, 0, 53⟩ : Room) s m #[.ref x, .int 1] below meth c s₁ [] 0 0 := Stand.of_body Bd
 have e0 : s₁.heap = h0 := by rw [← hh, Bd.state]; rfl
 have N0 := Fr.nil n0
 have hn0 : Z.heap.size = n0 := O0.1
 have KT0 : Keep h0 h0 [] := Keep.refl _ _
 refine own_enter (Φ := fun oo_ UV_ => ∃ vv_ LL_, oo_ = .returned vv_ ∧ Q_rmD_3_1 Z zC vF hvF x t kB c0 c1 c2 h0 n0 vv_ UV_.heap LL_ ∧ FrameEnd s oo_ UV_ LL_ (⟨4, 0, 0, 53⟩ : Room).cells (⟨4, 0, 0, 53⟩ : Room).slots) (own_ef_rmD_3_1 m x (1 : Int32)) ?_
 refine own_by (T' := s₁) (g' := (mkF m 1 #[.val (.ref x), .val (.int 1), .unset] [.int 1])) (fun _ kt_ => XS.iloadN X0.here hx rfl (hb hby own_d6_0) rfl kt_) ?_
 refine own_by (T' := s₁) (g' := (mkF m 2 #[.val (.ref x), .val (.int 1), .val (.int 1)] [])) (fun _ kt_ => XS.istoreN X0.here hx rfl (hb hby own_d6_1) rfl (l' := #[.val (.ref x), .val (.int 1), .val (.int 1)]) rfl kt_) ?_
 refine own_by (T' := s₁) (g' := (mkF m 3 #[.val (.ref x), .val (.int 1), .val (.int 1)] [.int 1])) (fun _ kt_ => XS.iloadN X0.here hx rfl (hb hby own_d6_2) rfl kt_) ?_
 refine own_by (T' := s₁) (g' := (mkF m 4 #[.val (.ref x), .val (.int 1), .val (.int 1)] [.ref x, .int 1])) (fun _ kt_ => XS.aloadN X0.here hx rfl (hb hby own_d6_3) rfl rfl kt_) ?_
 obtain ⟨cq1, kq1, q1a, q1b, q1c⟩ := isOf hZ e0 E_x
 obtain ⟨_, _, ⟨T1, L1, k1, n1⟩, -, X1, ⟨Lc1, hQ1, l1, y1, z1⟩, st1⟩ := X0.virtualBack hx (y := (⟨"java/lang/String", "length", "()I"⟩ : MethodName)) (z := (⟨"java/lang/String", "length", "()I"⟩ : MethodName)) hown (mvT hZ (ww hw 33 rfl)) (mvT hZ (ww hw 34 rfl)) (notFace_of_selects (args := #[]) (mvT hZ (ww hw 36 rfl))) (mvT hZ (ww hw 36 rfl)) (mvT hZ (ww hw 35 rfl)) (by decide) (backOf (W := 1) (rmLen_3 l Z a0 hw [] zC vF hvF GS x t kB c0 c1 c2 h0 n0 (by omega) O0 E_x Fv Fc Vt) hZ (ww hw 37 rfl) (ww hw 9 rfl) (by decide) (by decide)) q1a q1c (g := (mkF m 4 #[.val (.ref x), .val (.int 1), .val (.int 1)] [.ref x, .int 1])) rfl (by rw [hml]; rfl) (Steps.refl _) (argsL := []) (rest := [.int 1]) (lenOf own_pd_10 rfl) rfl (by show 2 * 0 + _ ≤ _; exact Nat.le_of_eq rfl) (hb hby own_d6_4) (fun _ _ => ⟨rfl, e0, (by decide : 0 + 0 ≤ _), (by decide : 0 + 0 ≤ _)⟩)
 dsimp only [Pt.U, Pt.locs, Pt.cells, Pt.slots] at X1 l1 y1 z1 st1 hQ1
 subst l1 y1 z1
 obtain ⟨rfl, N1q, e1⟩ := hQ1
 have N2 := Fr.app N0 N1q
 refine own_by (T' := T1) (g' := (mkF m 7 #[.val (.ref x), .val (.int 1), .val (.int 1)] [.int 3, .int 1])) (fun _ kt_ => st1.trans kt_) ?_
 refine own_by (T' := T1) (g' := (mkF m 10 #[.val (.ref x), .val (.int 1), .val (.int 1)] [])) (fun _ kt_ => XS.icmpNo X1.here hx rfl (hb hby own_d6_7) rfl (XT.ii_ge_f (by decide)) kt_) ?_
 refine own_by (T' := T1) (g' := (mkF m 11 #[.val (.ref x), .val (.int 1), .val (.int 1)] [.ref x])) (fun _ kt_ => XS.aloadN X1.here hx rfl (hb hby own_d6_10) rfl rfl kt_) ?_
 refine own_by (T' := T1) (g' := (mkF m 12 #[.val (.ref x), .val (.int 1), .val (.int 1)] [.int 1, .ref x])) (fun _ kt_ => XS.iloadN X1.here hx rfl (hb hby own_d6_11) rfl kt_) ?_
 obtain ⟨cq3, kq3, q3a, q3b, q3c⟩ := isOf hZ e1 E_x
 obtain ⟨_, _, ⟨T3, L3, k3, n3⟩, -, X3, ⟨Lc3, hQ3, l3, y3, z3⟩, st3⟩ := X1.virtualBack hx (y := (⟨"java/lang/String", "charAt", "(I)C"⟩ : MethodName)) (z := (⟨"java/lang/String", "charAt", "(I)C"⟩ : MethodName)) hown (mvT hZ (ww hw 57 rfl)) (mvT hZ (ww hw 58 rfl)) (notFace_of_selects (args := #[]) (mvT hZ (ww hw 60 rfl))) (mvT hZ (ww hw 60 rfl)) (mvT hZ (ww hw 59 rfl)) (by decide) (backOf (W := 0) (rmChr_3_1 l Z a0 hw [] zC vF hvF GS x t kB c0 c1 c2 h0 n0 (by omega) O0 E_x Fv Fc Vt ok1) hZ (ww hw 61 rfl) (ww hw 9 rfl) (by decide) (by decide)) q3a q3c (g := (mkF m 12 #[.val (.ref x), .val (.int 1), .val (.int 1)] [.int 1, .ref x])) rfl (by rw [hml]; rfl) (Steps.refl _) (argsL := [.int 1]) (rest := []) (lenOf own_pd_11 rfl) rfl (by show 2 * 0 + _ ≤ _; exact Nat.le_of_eq rfl) (hb hby own_d6_12) (fun _ _ => ⟨rfl, e1, (by decide : 0 + 0 ≤ _), (by decide : 0 + 0 ≤ _)⟩)
 dsimp only [Pt.U, Pt.locs, Pt.cells, Pt.slots] at X3 l3 y3 z3 st3 hQ3
 subst l3 y3 z3
 obtain ⟨rfl, N3q, e3⟩ := hQ3
 have N4 := Fr.app N2 N3q
 refine own_by (T' := T3) (g' := (mkF m 15 #[.val (.ref x), .val (.int 1), .val (.int 1)] [.int c1])) (fun _ kt_ => st3.trans kt_) ?_
 refine own_by (T' := T3) (g' := (mkF m 17 #[.val (.ref x), .val (.int 1), .val (.int 1)] [.int 48, .int c1])) (fun _ kt_ => XS.bipush X3.here hx rfl (hb hby own_d6_15) kt_) ?_
 by_cases hc5 : c1 < (48 : Int32)
 ·refine own_by (T' := T3) (g' := (mkF m 36 #[.val (.ref x), .val (.int 1), .val (.int 1)] [])) (fun _ kt_ => XS.icmpYes X3.here hx rfl (pc0 := 17) (pc' := 36) rfl (hb hby own_d6_17) rfl (XT.ii_lt_t hc5) (by decide) (by decide) kt_) ?_
  refine own_by (T' := T3) (g' := (mkF m 37 #[.val (.ref x), .val (.int 1), .val (.int 1)] [.int 1])) (fun _ kt_ => XS.iloadN X3.here hx rfl (hb hby own_d6_36) rfl kt_) ?_
  refine own_by (T' := T3) (g' := (mkF m 38 #[.val (.ref x), .val (.int 1), .val (.int 1)] [.int 1, .int 1])) (fun _ kt_ => XS.iloadN X3.here hx rfl (hb hby own_d6_37) rfl kt_) ?_
  refine own_by (T' := T3) (g' := (mkF m 39 #[.val (.ref x), .val (.int 1), .val (.int 1)] [(.int ((1 : Int32) - (1 : Int32)))])) (fun _ kt_ => XS.isub X3.here hx rfl (hb hby own_d6_38) rfl kt_) ?_
  rw [show ((1 : Int32) - (1 : Int32)) = (0 : Int32) from by decide]
  have hr6 : (0 : Int32) = (if c1 < (48 : Int32) then (0 : Int32) else (if (57 : Int32) < c1 then (0 : Int32) else (if c2 < (48 : Int32) then (1 : Int32) else (if (57 : Int32) < c2 then (1 : Int32) else (2 : Int32))))) := by simp [hc5]
  obtain ⟨fs7, hr7, hrun7, hended7, hW7, hsame7⟩ := X3.leave (v := some (.int 0)) (fun h => by rw [Bd.returns] at h; cases h)
  refine ⟨_, _, retOut X3 hx (t := .int) Bd.returns rfl (Or.inl ⟨rfl, Or.inl rfl, _, rfl⟩) (hb hby own_d6_39) hr7, hrun7, hended7, _, _, rfl, ?_, ⟨_, rfl⟩, hW7, hsame7.mono (by decide) (by decide)⟩
  show Q_rmD_3_1 Z zC vF hvF x t kB c0 c1 c2 h0 n0 _ T3.heap _
  exact ⟨(congrArg (fun z => some (Value.int z)) hr6), N4, e3⟩
 ·refine own_by (T' := T3) (g' := (mkF m 20 #[.val (.ref x), .val (.int 1), .val (.int 1)] [])) (fun _ kt_ => XS.icmpNo X3.here hx rfl (hb hby own_d6_17) rfl (XT.ii_lt_f hc5) kt_) ?_
  refine own_by (T' := T3) (g' := (mkF m 21 #[.val (.ref x), .val (.int 1), .val (.int 1)] [.ref x])) (fun _ kt_ => XS.aloadN X3.here hx rfl (hb hby own_d6_20) rfl rfl kt_) ?_
  refine own_by (T' := T3) (g' := (mkF m 22 #[.val (.ref x), .val (.int 1), .val (.int 1)] [.int 1, .ref x])) (fun _ kt_ => XS.iloadN X3.here hx rfl (hb hby own_d6_21) rfl kt_) ?_
  obtain ⟨cq8, kq8, q8a, q8b, q8c⟩ := isOf hZ e3 E_x
  obtain ⟨_, _, ⟨T8, L8, k8, n8⟩, -, X8, ⟨Lc8, hQ8, l8, y8, z8⟩, st8⟩ := X3.virtualBack hx (y := (⟨"java/lang/String", "charAt", "(I)C"⟩ : MethodName)) (z := (⟨"java/lang/String", "charAt", "(I)C"⟩ : MethodName)) hown (mvT hZ (ww hw 57 rfl)) (mvT hZ (ww hw 58 rfl)) (notFace_of_selects (args := #[]) (mvT hZ (ww hw 60 rfl))) (mvT hZ (ww hw 60 rfl)) (mvT hZ (ww hw 59 rfl)) (by decide) (backOf (W := 0) (rmChr_3_1 l Z a0 hw [] zC vF hvF GS x t kB c0 c1 c2 h0 n0 (by omega) O0 E_x Fv Fc Vt ok1) hZ (ww hw 61 rfl) (ww hw 9 rfl) (by decide) (by decide)) q8a q8c (g := (mkF m 22 #[.val (.ref x), .val (.int 1), .val (.int 1)] [.int 1, .ref x])) rfl (by rw [hml]; rfl) (Steps.refl _) (argsL := [.int 1]) (rest := []) (lenOf own_pd_11 rfl) rfl (by show 2 * 0 + _ ≤ _; exact Nat.le_of_eq rfl) (hb hby own_d6_22) (fun _ _ => ⟨rfl, e3, (by decide : 0 + 0 ≤ _), (by decide : 0 + 0 ≤ _)⟩)
  dsimp only [Pt.U, Pt.locs, Pt.cells, Pt.slots] at X8 l8 y8 z8 st8 hQ8
  subst l8 y8 z8
  obtain ⟨rfl, N8q, e8⟩ := hQ8
  have N9 := Fr.app N4 N8q
  refine own_by (T' := T8) (g' := (mkF m 25 #[.val (.ref x), .val (.int 1), .val (.int 1)] [.int c1])) (fun _ kt_ => st8.trans kt_) ?_
  refine own_by (T' := T8) (g' := (mkF m 27 #[.val (.ref x), .val (.int 1), .val (.int 1)] [.int 57, .int c1])) (fun _ kt_ => XS.bipush X8.here hx rfl (hb hby own_d6_25) kt_) ?_
  by_cases hc10 : (57 : Int32) < c1
  ·refine own_by (T' := T8) (g' := (mkF m 36 #[.val (.ref x), .val (.int 1), .val (.int 1)] [])) (fun _ kt_ => XS.icmpYes X8.here hx rfl (pc0 := 27) (pc' := 36) rfl (hb hby own_d6_27) rfl (XT.ii_gt_t hc10) (by decide) (by decide) kt_) ?_
   refine own_by (T' := T8) (g' := (mkF m 37 #[.val (.ref x), .val (.int 1), .val (.int 1)] [.int 1])) (fun _ kt_ => XS.iloadN X8.here hx rfl (hb hby own_d6_36) rfl kt_) ?_
   refine own_by (T' := T8) (g' := (mkF m 38 #[.val (.ref x), .val (.int 1), .val (.int 1)] [.int 1, .int 1])) (fun _ kt_ => XS.iloadN X8.here hx rfl (hb hby own_d6_37) rfl kt_) ?_
   refine own_by (T' := T8) (g' := (mkF m 39 #[.val (.ref x), .val (.int 1), .val (.int 1)] [(.int ((1 : Int32) - (1 : Int32)))])) (fun _ kt_ => XS.isub X8.here hx rfl (hb hby own_d6_38) rfl kt_) ?_
   rw [show ((1 : Int32) - (1 : Int32)) = (0 : Int32) from by decide]
   have hr11 : (0 : Int32) = (if c1 < (48 : Int32) then (0 : Int32) else (if (57 : Int32) < c1 then (0 : Int32) else (if c2 < (48 : Int32) then (1 : Int32) else (if (57 : Int32) < c2 then (1 : Int32) else (2 : Int32))))) := by simp [hc5, hc10]
   obtain ⟨fs12, hr12, hrun12, hended12, hW12, hsame12⟩ := X8.leave (v := some (.int 0)) (fun h => by rw [Bd.returns] at h; cases h)
   refine ⟨_, _, retOut X8 hx (t := .int) Bd.returns rfl (Or.inl ⟨rfl, Or.inl rfl, _, rfl⟩) (hb hby own_d6_39) hr12, hrun12, hended12, _, _, rfl, ?_, ⟨_, rfl⟩, hW12, hsame12.mono (by decide) (by decide)⟩
   show Q_rmD_3_1 Z zC vF hvF x t kB c0 c1 c2 h0 n0 _ T8.heap _
   exact ⟨(congrArg (fun z => some (Value.int z)) hr11), N9, e8⟩
  ·refine own_by (T' := T8) (g' := (mkF m 30 #[.val (.ref x), .val (.int 1), .val (.int 1)] [])) (fun _ kt_ => XS.icmpNo X8.here hx rfl (hb hby own_d6_27) rfl (XT.ii_gt_f hc10) kt_) ?_
   refine own_by (T' := T8) (g' := (mkF m 33 #[.val (.ref x), .val (.int 1), .val (.int ((1 : Int32) + (1 : Int32)))] [])) (fun _ kt_ => XS.iinc X8.here hx rfl (hb hby own_d6_30) rfl (l' := #[.val (.ref x), .val (.int 1), .val (.int ((1 : Int32) + (1 : Int32)))]) rfl kt_) ?_
   rw [show ((1 : Int32) + (1 : Int32)) = (2 : Int32) from by decide]
   refine own_by (T' := T8) (g' := (mkF m 2 #[.val (.ref x), .val (.int 1), .val (.int 2)] [])) (fun _ kt_ => XS.goto X8.here hx rfl (pc0 := 33) (pc' := 2) rfl (hb hby own_d6_33) (by decide) (by decide) kt_) ?_
   refine own_by (T' := T8) (g' := (mkF m 3 #[.val (.ref x), .val (.int 1), .val (.int 2)] [.int 2])) (fun _ kt_ => XS.iloadN X8.here hx rfl (hb hby own_d6_2) rfl kt_) ?_
   refine own_by (T' := T8) (g' := (mkF m 4 #[.val (.ref x), .val (.int 1), .val (.int 2)] [.ref x, .int 2])) (fun _ kt_ => XS.aloadN X8.here hx rfl (hb hby own_d6_3) rfl rfl kt_) ?_
   obtain ⟨cq13, kq13, q13a, q13b, q13c⟩ := isOf hZ e8 E_x
   obtain ⟨_, _, ⟨T13, L13, k13, n13⟩, -, X13, ⟨Lc13, hQ13, l13, y13, z13⟩, st13⟩ := X8.virtualBack hx (y := (⟨"java/lang/String", "length", "()I"⟩ : MethodName)) (z := (⟨"java/lang/String", "length", "()I"⟩ : MethodName)) hown (mvT hZ (ww hw 33 rfl)) (mvT hZ (ww hw 34 rfl)) (notFace_of_selects (args := #[]) (mvT hZ (ww hw 36 rfl))) (mvT hZ (ww hw 36 rfl)) (mvT hZ (ww hw 35 rfl)) (by decide) (backOf (W := 1) (rmLen_3 l Z a0 hw [] zC vF hvF GS x t kB c0 c1 c2 h0 n0 (by omega) O0 E_x Fv Fc Vt) hZ (ww hw 37 rfl) (ww hw 9 rfl) (by decide) (by decide)) q13a q13c (g := (mkF m 4 #[.val (.ref x), .val (.int 1), .val (.int 2)] [.ref x, .int 2])) rfl (by rw [hml]; rfl) (Steps.refl _) (argsL := []) (rest := [.int 2]) (lenOf own_pd_10 rfl) rfl (by show 2 * 0 + _ ≤ _; exact Nat.le_of_eq rfl) (hb hby own_d6_4) (fun _ _ => ⟨rfl, e8, (by decide : 0 + 0 ≤ _), (by decide : 0 + 0 ≤ _)⟩)
   dsimp only [Pt.U, Pt.locs, Pt.cells, Pt.slots] at X13 l13 y13 z13 st13 hQ13
   subst l13 y13 z13
   obtain ⟨rfl, N13q, e13⟩ := hQ13
   have N14 := Fr.app N9 N13q
   refine own_by (T' := T13) (g' := (mkF m 7 #[.val (.ref x), .val (.int 1), .val (.int 2)] [.int 3, .int 2])) (fun _ kt_ => st13.trans kt_) ?_
   refine own_by (T' := T13) (g' := (mkF m 10 #[.val (.ref x), .val (.int 1), .val (.int 2)] [])) (fun _ kt_ => XS.icmpNo X13.here hx rfl (hb hby own_d6_7) rfl (XT.ii_ge_f (by decide)) kt_) ?_
   refine own_by (T' := T13) (g' := (mkF m 11 #[.val (.ref x), .val (.int 1), .val (.int 2)] [.ref x])) (fun _ kt_ => XS.aloadN X13.here hx rfl (hb hby own_d6_10) rfl rfl kt_) ?_
   refine own_by (T' := T13) (g' := (mkF m 12 #[.val (.ref x), .val (.int 1), .val (.int 2)] [.int 2, .ref x])) (fun _ kt_ => XS.iloadN X13.here hx rfl (hb hby own_d6_11) rfl kt_) ?_
   obtain ⟨cq15, kq15, q15a, q15b, q15c⟩ := isOf hZ e13 E_x
   obtain ⟨_, _, ⟨T15, L15, k15, n15⟩, -, X15, ⟨Lc15, hQ15, l15, y15, z15⟩, st15⟩ := X13.virtualBack hx (y := (⟨"java/lang/String", "charAt", "(I)C"⟩ : MethodName)) (z := (⟨"java/lang/String", "charAt", "(I)C"⟩ : MethodName)) hown (mvT hZ (ww hw 57 rfl)) (mvT hZ (ww hw 58 rfl)) (notFace_of_selects (args := #[]) (mvT hZ (ww hw 60 rfl))) (mvT hZ (ww hw 60 rfl)) (mvT hZ (ww hw 59 rfl)) (by decide) (backOf (W := 0) (rmChr_3_2 l Z a0 hw [] zC vF hvF GS x t kB c0 c1 c2 h0 n0 (by omega) O0 E_x Fv Fc Vt ok2) hZ (ww hw 61 rfl) (ww hw 9 rfl) (by decide) (by decide)) q15a q15c (g := (mkF m 12 #[.val (.ref x), .val (.int 1), .val (.int 2)] [.int 2, .ref x])) rfl (by rw [hml]; rfl) (Steps.refl _) (argsL := [.int 2]) (rest := []) (lenOf own_pd_11 rfl) rfl (by show 2 * 0 + _ ≤ _; exact Nat.le_of_eq rfl) (hb hby own_d6_12) (fun _ _ => ⟨rfl, e13, (by decide : 0 + 0 ≤ _), (by decide : 0 + 0 ≤ _)⟩)
   dsimp only [Pt.U, Pt.locs, Pt.cells, Pt.slots] at X15 l15 y15 z15 st15 hQ15
   subst l15 y15 z15
   obtain ⟨rfl, N15q, e15⟩ := hQ15
   have N16 := Fr.app N14 N15q
   refine own_by (T' := T15) (g' := (mkF m 15 #[.val (.ref x), .val (.int 1), .val (.int 2)] [.int c2])) (fun _ kt_ => st15.trans kt_) ?_
   refine own_by (T' := T15) (g' := (mkF m 17 #[.val (.ref x), .val (.int 1), .val (.int 2)] [.int 48, .int c2])) (fun _ kt_ => XS.bipush X15.here hx rfl (hb hby own_d6_15) kt_) ?_
   by_cases hc17 : c2 < (48 : Int32)
   ·refine own_by (T' := T15) (g' := (mkF m 36 #[.val (.ref x), .val (.int 1), .val (.int 2)] [])) (fun _ kt_ => XS.icmpYes X15.here hx rfl (pc0 := 17) (pc' := 36) rfl (hb hby own_d6_17) rfl (XT.ii_lt_t hc17) (by decide) (by decide) kt_) ?_
    refine own_by (T' := T15) (g' := (mkF m 37 #[.val (.ref x), .val (.int 1), .val (.int 2)] [.int 2])) (fun _ kt_ => XS.iloadN X15.here hx rfl (hb hby own_d6_36) rfl kt_) ?_
    refine own_by (T' := T15) (g' := (mkF m 38 #[.val (.ref x), .val (.int 1), .val (.int 2)] [.int 1, .int 2])) (fun _ kt_ => XS.iloadN X15.here hx rfl (hb hby own_d6_37) rfl kt_) ?_
    refine own_by (T' := T15) (g' := (mkF m 39 #[.val (.ref x), .val (.int 1), .val (.int 2)] [(.int ((2 : Int32) - (1 : Int32)))])) (fun _ kt_ => XS.isub X15.here hx rfl (hb hby own_d6_38) rfl kt_) ?_
    rw [show ((2 : Int32) - (1 : Int32)) = (1 : Int32) from by decide]
    have hr18 : (1 : Int32) = (if c1 < (48 : Int32) then (0 : Int32) else (if (57 : Int32) < c1 then (0 : Int32) else (if c2 < (48 : Int32) then (1 : Int32) else (if (57 : Int32) < c2 then (1 : Int32) else (2 : Int32))))) := by simp [hc5, hc10, hc17]
    obtain ⟨fs19, hr19, hrun19, hended19, hW19, hsame19⟩ := X15.leave (v := some (.int 1)) (fun h => by rw [Bd.returns] at h; cases h)
    refine ⟨_, _, retOut X15 hx (t := .int) Bd.returns rfl (Or.inl ⟨rfl, Or.inl rfl, _, rfl⟩) (hb hby own_d6_39) hr19, hrun19, hended19, _, _, rfl, ?_, ⟨_, rfl⟩, hW19, hsame19.mono (by decide) (by decide)⟩
    show Q_rmD_3_1 Z zC vF hvF x t kB c0 c1 c2 h0 n0 _ T15.heap _
    exact ⟨(congrArg (fun z => some (Value.int z)) hr18), N16, e15⟩
   ·refine own_by (T' := T15) (g' := (mkF m 20 #[.val (.ref x), .val (.int 1), .val (.int 2)] [])) (fun _ kt_ => XS.icmpNo X15.here hx rfl (hb hby own_d6_17) rfl (XT.ii_lt_f hc17) kt_) ?_
    refine own_by (T' := T15) (g' := (mkF m 21 #[.val (.ref x), .val (.int 1), .val (.int 2)] [.ref x])) (fun _ kt_ => XS.aloadN X15.here hx rfl (hb hby own_d6_20) rfl rfl kt_) ?_
    refine own_by (T' := T15) (g' := (mkF m 22 #[.val (.ref x), .val (.int 1), .val (.int 2)] [.int 2, .ref x])) (fun _ kt_ => XS.iloadN X15.here hx rfl (hb hby own_d6_21) rfl kt_) ?_
    obtain ⟨cq20, kq20, q20a, q20b, q20c⟩ := isOf hZ e15 E_x
    obtain ⟨_, _, ⟨T20, L20, k20, n20⟩, -, X20, ⟨Lc20, hQ20, l20, y20, z20⟩, st20⟩ := X15.virtualBack hx (y := (⟨"java/lang/String", "charAt", "(I)C"⟩ : MethodName)) (z := (⟨"java/lang/String", "charAt", "(I)C"⟩ : MethodName)) hown (mvT hZ (ww hw 57 rfl)) (mvT hZ (ww hw 58 rfl)) (notFace_of_selects (args := #[]) (mvT hZ (ww hw 60 rfl))) (mvT hZ (ww hw 60 rfl)) (mvT hZ (ww hw 59 rfl)) (by decide) (backOf (W := 0) (rmChr_3_2 l Z a0 hw [] zC vF hvF GS x t kB c0 c1 c2 h0 n0 (by omega) O0 E_x Fv Fc Vt ok2) hZ (ww hw 61 rfl) (ww hw 9 rfl) (by decide) (by decide)) q20a q20c (g := (mkF m 22 #[.val (.ref x), .val (.int 1), .val (.int 2)] [.int 2, .ref x])) rfl (by rw [hml]; rfl) (Steps.refl _) (argsL := [.int 2]) (rest := []) (lenOf own_pd_11 rfl) rfl (by show 2 * 0 + _ ≤ _; exact Nat.le_of_eq rfl) (hb hby own_d6_22) (fun _ _ => ⟨rfl, e15, (by decide : 0 + 0 ≤ _), (by decide : 0 + 0 ≤ _)⟩)
    dsimp only [Pt.U, Pt.locs, Pt.cells, Pt.slots] at X20 l20 y20 z20 st20 hQ20
    subst l20 y20 z20
    obtain ⟨rfl, N20q, e20⟩ := hQ20
    have N21 := Fr.app N16 N20q
    refine own_by (T' := T20) (g' := (mkF m 25 #[.val (.ref x), .val (.int 1), .val (.int 2)] [.int c2])) (fun _ kt_ => st20.trans kt_) ?_
    refine own_by (T' := T20) (g' := (mkF m 27 #[.val (.ref x), .val (.int 1), .val (.int 2)] [.int 57, .int c2])) (fun _ kt_ => XS.bipush X20.here hx rfl (hb hby own_d6_25) kt_) ?_
    by_cases hc22 : (57 : Int32) < c2
    ·refine own_by (T' := T20) (g' := (mkF m 36 #[.val (.ref x), .val (.int 1), .val (.int 2)] [])) (fun _ kt_ => XS.icmpYes X20.here hx rfl (pc0 := 27) (pc' := 36) rfl (hb hby own_d6_27) rfl (XT.ii_gt_t hc22) (by decide) (by decide) kt_) ?_
     refine own_by (T' := T20) (g' := (mkF m 37 #[.val (.ref x), .val (.int 1), .val (.int 2)] [.int 2])) (fun _ kt_ => XS.iloadN X20.here hx rfl (hb hby own_d6_36) rfl kt_) ?_
     refine own_by (T' := T20) (g' := (mkF m 38 #[.val (.ref x), .val (.int 1), .val (.int 2)] [.int 1, .int 2])) (fun _ kt_ => XS.iloadN X20.here hx rfl (hb hby own_d6_37) rfl kt_) ?_
     refine own_by (T' := T20) (g' := (mkF m 39 #[.val (.ref x), .val (.int 1), .val (.int 2)] [(.int ((2 : Int32) - (1 : Int32)))])) (fun _ kt_ => XS.isub X20.here hx rfl (hb hby own_d6_38) rfl kt_) ?_
     rw [show ((2 : Int32) - (1 : Int32)) = (1 : Int32) from by decide]
     have hr23 : (1 : Int32) = (if c1 < (48 : Int32) then (0 : Int32) else (if (57 : Int32) < c1 then (0 : Int32) else (if c2 < (48 : Int32) then (1 : Int32) else (if (57 : Int32) < c2 then (1 : Int32) else (2 : Int32))))) := by simp [hc5, hc10, hc17, hc22]
     obtain ⟨fs24, hr24, hrun24, hended24, hW24, hsame24⟩ := X20.leave (v := some (.int 1)) (fun h => by rw [Bd.returns] at h; cases h)
     refine ⟨_, _, retOut X20 hx (t := .int) Bd.returns rfl (Or.inl ⟨rfl, Or.inl rfl, _, rfl⟩) (hb hby own_d6_39) hr24, hrun24, hended24, _, _, rfl, ?_, ⟨_, rfl⟩, hW24, hsame24.mono (by decide) (by decide)⟩
     show Q_rmD_3_1 Z zC vF hvF x t kB c0 c1 c2 h0 n0 _ T20.heap _
     exact ⟨(congrArg (fun z => some (Value.int z)) hr23), N21, e20⟩
    ·refine own_by (T' := T20) (g' := (mkF m 30 #[.val (.ref x), .val (.int 1), .val (.int 2)] [])) (fun _ kt_ => XS.icmpNo X20.here hx rfl (hb hby own_d6_27) rfl (XT.ii_gt_f hc22) kt_) ?_
     refine own_by (T' := T20) (g' := (mkF m 33 #[.val (.ref x), .val (.int 1), .val (.int ((2 : Int32) + (1 : Int32)))] [])) (fun _ kt_ => XS.iinc X20.here hx rfl (hb hby own_d6_30) rfl (l' := #[.val (.ref x), .val (.int 1), .val (.int ((2 : Int32) + (1 : Int32)))]) rfl kt_) ?_
     rw [show ((2 : Int32) + (1 : Int32)) = (3 : Int32) from by decide]
     refine own_by (T' := T20) (g' := (mkF m 2 #[.val (.ref x), .val (.int 1), .val (.int 3)] [])) (fun _ kt_ => XS.goto X20.here hx rfl (pc0 := 33) (pc' := 2) rfl (hb hby own_d6_33) (by decide) (by decide) kt_) ?_
     refine own_by (T' := T20) (g' := (mkF m 3 #[.val (.ref x), .val (.int 1), .val (.int 3)] [.int 3])) (fun _ kt_ => XS.iloadN X20.here hx rfl (hb hby own_d6_2) rfl kt_) ?_
     refine own_by (T' := T20) (g' := (mkF m 4 #[.val (.ref x), .val (.int 1), .val (.int 3)] [.ref x, .int 3])) (fun _ kt_ => XS.aloadN X20.here hx rfl (hb hby own_d6_3) rfl rfl kt_) ?_
     obtain ⟨cq25, kq25, q25a, q25b, q25c⟩ := isOf hZ e20 E_x
     obtain ⟨_, _, ⟨T25, L25, k25, n25⟩, -, X25, ⟨Lc25, hQ25, l25, y25, z25⟩, st25⟩ := X20.virtualBack hx (y := (⟨"java/lang/String", "length", "()I"⟩ : MethodName)) (z := (⟨"java/lang/String", "length", "()I"⟩ : MethodName)) hown (mvT hZ (ww hw 33 rfl)) (mvT hZ (ww hw 34 rfl)) (notFace_of_selects (args := #[]) (mvT hZ (ww hw 36 rfl))) (mvT hZ (ww hw 36 rfl)) (mvT hZ (ww hw 35 rfl)) (by decide) (backOf (W := 1) (rmLen_3 l Z a0 hw [] zC vF hvF GS x t kB c0 c1 c2 h0 n0 (by omega) O0 E_x Fv Fc Vt) hZ (ww hw 37 rfl) (ww hw 9 rfl) (by decide) (by decide)) q25a q25c (g := (mkF m 4 #[.val (.ref x), .val (.int 1), .val (.int 3)] [.ref x, .int 3])) rfl (by rw [hml]; rfl) (Steps.refl _) (argsL := []) (rest := [.int 3]) (lenOf own_pd_10 rfl) rfl (by show 2 * 0 + _ ≤ _; exact Nat.le_of_eq rfl) (hb hby own_d6_4) (fun _ _ => ⟨rfl, e20, (by decide : 0 + 0 ≤ _), (by decide : 0 + 0 ≤ _)⟩)
     dsimp only [Pt.U, Pt.locs, Pt.cells, Pt.slots] at X25 l25 y25 z25 st25 hQ25
     subst l25 y25 z25
     obtain ⟨rfl, N25q, e25⟩ := hQ25
     have N26 := Fr.app N21 N25q
     refine own_by (T' := T25) (g' := (mkF m 7 #[.val (.ref x), .val (.int 1), .val (.int 3)] [.int 3, .int 3])) (fun _ kt_ => st25.trans kt_) ?_
     refine own_by (T' := T25) (g' := (mkF m 36 #[.val (.ref x), .val (.int 1), .val (.int 3)] [])) (fun _ kt_ => XS.icmpYes X25.here hx rfl (pc0 := 7) (pc' := 36) rfl (hb hby own_d6_7) rfl (XT.ii_ge_t (by decide)) (by decide) (by decide) kt_) ?_
     refine own_by (T' := T25) (g' := (mkF m 37 #[.val (.ref x), .val (.int 1), .val (.int 3)] [.int 3])) (fun _ kt_ => XS.iloadN X25.here hx rfl (hb hby own_d6_36) rfl kt_) ?_
     refine own_by (T' := T25) (g' := (mkF m 38 #[.val (.ref x), .val (.int 1), .val (.int 3)] [.int 1, .int 3])) (fun _ kt_ => XS.iloadN X25.here hx rfl (hb hby own_d6_37) rfl kt_) ?_
     refine own_by (T' := T25) (g' := (mkF m 39 #[.val (.ref x), .val (.int 1), .val (.int 3)] [(.int ((3 : Int32) - (1 : Int32)))])) (fun _ kt_ => XS.isub X25.here hx rfl (hb hby own_d6_38) rfl kt_) ?_
     rw [show ((3 : Int32) - (1 : Int32)) = (2 : Int32) from by decide]
     have hr27 : (2 : Int32) = (if c1 < (48 : Int32) then (0 : Int32) else (if (57 : Int32) < c1 then (0 : Int32) else (if c2 < (48 : Int32) then (1 : Int32) else (if (57 : Int32) < c2 then (1 : Int32) else (2 : Int32))))) := by simp [hc5, hc10, hc17, hc22]
     obtain ⟨fs28, hr28, hrun28, hended28, hW28, hsame28⟩ := X25.leave (v := some (.int 2)) (fun h => by rw [Bd.returns] at h; cases h)
     refine ⟨_, _, retOut X25 hx (t := .int) Bd.returns rfl (Or.inl ⟨rfl, Or.inl rfl, _, rfl⟩) (hb hby own_d6_39) hr28, hrun28, hended28, _, _, rfl, ?_, ⟨_, rfl⟩, hW28, hsame28.mono (by decide) (by decide)⟩
     show Q_rmD_3_1 Z zC vF hvF x t kB c0 c1 c2 h0 n0 _ T25.heap _
     exact ⟨(congrArg (fun z => some (Value.int z)) hr27), N26, e25⟩
theorem own_ef_rmD_4_2 (m : MethodId) (x0 : Addr) (x1 : Int32) : entryFrame m #[.ref x0, .int x1] 3 = mkF m 0 #[.val (.ref x0), .val (.int x1), .unset] [] := by first | (simp [entryFrame, mkF, argsToLocals, Value.category]; done) | rfl
def Q_rmD_4_2 (Z : State) (zC : Int32) (vF : Value) (hvF : vF.isRef = true) (x : Addr) (t : Addr) (kB : ClassId) (c0 : Int32) (c1 : Int32) (c2 : Int32) (c3 : Int32) (h0 : Heap) (n0 : Nat) (vv_ : Option Value) (hh_ : Heap) (LL_ : List Loc) : Prop := vv_ = some (.int (if c2 < (48 : Int32) then (0 : Int32) else (if (57 : Int32) < c2 then (0 : Int32) else (if c3 < (48 : Int32) then (1 : Int32) else (if (57 : Int32) < c3 then (1 : Int32) else (2 : Int32)))))) ∧ Fr n0 LL_ ∧ hh_ = h0
set_option maxRecDepth 65536 in
set_option maxHeartbeats 40000000 in
theorem rmD_4_2 (l : Launch) (Z : State) (a0 : Array Value) (hw : ∀ d ∈ tables_1, d.before a0 Z = true) (ws : List Jvm.Cond) (zC : Int32) (vF : Value) (hvF : vF.isRef = true) (GS : Glob Z zC vF hvF) (x : Addr) (t : Addr) (kB : ClassId) (c0 : Int32) (c1 : Int32) (c2 : Int32) (c3 : Int32) (h0 : Heap) (n0 : Nat) (Z0 : n0 ≤ h0.size) (O0 : Old Z n0 h0) (E_x : Exa Z h0 x "java/lang/String") (Fv : Fld Z h0 x "java/lang/String" "value" "[B" (.ref t)) (Fc : Fld Z h0 x "java/lang/String" "coder" "B" (.int 0)) (Vt : Arv Z h0 t kB .byte (4 : Int32) [(.int c0.toInt8.toInt32), (.int c1.toInt8.toInt32), (.int c2.toInt8.toInt32), (.int c3.toInt8.toInt32)] (.int 0)) (ok0 : okF c0) (ok1 : okF c1) (ok2 : okF c2) (ok3 : okF c3) :
  MetFree l (⟨"com/example/vestledger/vestledger/journal/JournalDecimals", "digitsFrom", "(Ljava/lang/String;I)I"⟩ : MethodName) (head1 (Jvm.Cond.code (⟨"com/example/vestledger/vestledger/journal/JournalDecimals", "digitsFrom", "(Ljava/lang/String;I)I"⟩ : MethodName) prog_21_method_5_code 3 (some .int) :: ws) (⟨4, 0, 0, 53⟩ : Room)) (fun aa_ UU_ => aa_ = #[.ref x, .int 2] ∧ Z.Warmed39 UU_.vm ∧ UU_.heap = h0) (fun _ _ _ _ _ => True) (fun _ UU_ oo_ UV_ => ∃ vv_ LL_, oo_ = .returned vv_ ∧ Q_rmD_4_2 Z zC vF hvF x t kB c0 c1 c2 c3 h0 n0 vv_ UV_.heap LL_ ∧ FrameEnd UU_ oo_ UV_ LL_ (⟨4, 0, 0, 53⟩ : Room).cells (⟨4, 0, 0, 53⟩ : Room).slots) := by
 refine MetFree.of_bodySF (plainFor_of_name own_pn_com_example_vestledger_vestledger_journal_JournalDecimals) hisR ?_
 intro p e s m args below meth c s₁ Bd hml0 hP hK
 obtain ⟨rfl, hZ, hh⟩ := hP
 have hx := Bd.exec
 have hby := Bd.bytes
 have hml : c.maxLocals = 3 := hml0
 have hown : s.vm.findClass "com/example/vestledger/vestledger/journal/JournalDecimals" = some m.cls := findClass_of_methodNamed Bd.named
 have hnm := (name_of_methodNamed Bd.named Bd.method).1
 have X0 : Stand p l e (⟨4, 0, 0, 53⟩ : Room) s m #[.ref x, .int 2] below meth c s₁ [] 0 0 := Stand.of_body Bd
 have e0 : s₁.heap = h0 := by rw [← hh, Bd.state]; rfl
 have N0 := Fr.nil n0
 have hn0 : Z.heap.size = n0 := O0.1
 have KT0 : Keep h0 h0 [] := Keep.refl _ _
 refine own_enter (Φ := fun oo_ UV_ => ∃ vv_ LL_, oo_ = .returned vv_ ∧ Q_rmD_4_2 Z zC vF hvF x t kB c0 c1 c2 c3 h0 n0 vv_ UV_.heap LL_ ∧ FrameEnd s oo_ UV_ LL_ (⟨4, 0, 0, 53⟩ : Room).cells (⟨4, 0, 0, 53⟩ : Room).slots) (own_ef_rmD_4_2 m x (2 : Int32)) ?_
 refine own_by (T' := s₁) (g' := (mkF m 1 #[.val (.ref x), .val (.int 2), .unset] [.int 2])) (fun _ kt_ => XS.iloadN X0.here hx rfl (hb hby own_d6_0) rfl kt_) ?_
 refine own_by (T' := s₁) (g' := (mkF m 2 #[.val (.ref x), .val (.int 2), .val (.int 2)] [])) (fun _ kt_ => XS.istoreN X0.here hx rfl (hb hby own_d6_1) rfl (l' := #[.val (.ref x), .val (.int 2), .val (.int 2)]) rfl kt_) ?_
 refine own_by (T' := s₁) (g' := (mkF m 3 #[.val (.ref x), .val (.int 2), .val (.int 2)] [.int 2])) (fun _ kt_ => XS.iloadN X0.here hx rfl (hb hby own_d6_2) rfl kt_) ?_
 refine own_by (T' := s₁) (g' := (mkF m 4 #[.val (.ref x), .val (.int 2), .val (.int 2)] [.ref x, .int 2])) (fun _ kt_ => XS.aloadN X0.here hx rfl (hb hby own_d6_3) rfl rfl kt_) ?_
 obtain ⟨cq1, kq1, q1a, q1b, q1c⟩ := isOf hZ e0 E_x
 obtain ⟨_, _, ⟨T1, L1, k1, n1⟩, -, X1, ⟨Lc1, hQ1, l1, y1, z1⟩, st1⟩ := X0.virtualBack hx (y := (⟨"java/lang/String", "length", "()I"⟩ : MethodName)) (z := (⟨"java/lang/String", "length", "()I"⟩ : MethodName)) hown (mvT hZ (ww hw 33 rfl)) (mvT hZ (ww hw 34 rfl)) (notFace_of_selects (args := #[]) (mvT hZ (ww hw 36 rfl))) (mvT hZ (ww hw 36 rfl)) (mvT hZ (ww hw 35 rfl)) (by decide) (backOf (W := 1) (rmLen_4 l Z a0 hw [] zC vF hvF GS x t kB c0 c1 c2 c3 h0 n0 (by omega) O0 E_x Fv Fc Vt) hZ (ww hw 37 rfl) (ww hw 9 rfl) (by decide) (by decide)) q1a q1c (g := (mkF m 4 #[.val (.ref x), .val (.int 2), .val (.int 2)] [.ref x, .int 2])) rfl (by rw [hml]; rfl) (Steps.refl _) (argsL := []) (rest := [.int 2]) (lenOf own_pd_10 rfl) rfl (by show 2 * 0 + _ ≤ _; exact Nat.le_of_eq rfl) (hb hby own_d6_4) (fun _ _ => ⟨rfl, e0, (by decide : 0 + 0 ≤ _), (by decide : 0 + 0 ≤ _)⟩)
 dsimp only [Pt.U, Pt.locs, Pt.cells, Pt.slots] at X1 l1 y1 z1 st1 hQ1
 subst l1 y1 z1
 obtain ⟨rfl, N1q, e1⟩ := hQ1
 have N2 := Fr.app N0 N1q
 refine own_by (T' := T1) (g' := (mkF m 7 #[.val (.ref x), .val (.int 2), .val (.int 2)] [.int 4, .int 2])) (fun _ kt_ => st1.trans kt_) ?_
 refine own_by (T' := T1) (g' := (mkF m 10 #[.val (.ref x), .val (.int 2), .val (.int 2)] [])) (fun _ kt_ => XS.icmpNo X1.here hx rfl (hb hby own_d6_7) rfl (XT.ii_ge_f (by decide)) kt_) ?_
 refine own_by (T' := T1) (g' := (mkF m 11 #[.val (.ref x), .val (.int 2), .val (.int 2)] [.ref x])) (fun _ kt_ => XS.aloadN X1.here hx rfl (hb hby own_d6_10) rfl rfl kt_) ?_
 refine own_by (T' := T1) (g' := (mkF m 12 #[.val (.ref x), .val (.int 2), .val (.int 2)] [.int 2, .ref x])) (fun _ kt_ => XS.iloadN X1.here hx rfl (hb hby own_d6_11) rfl kt_) ?_
 obtain ⟨cq3, kq3, q3a, q3b, q3c⟩ := isOf hZ e1 E_x
 obtain ⟨_, _, ⟨T3, L3, k3, n3⟩, -, X3, ⟨Lc3, hQ3, l3, y3, z3⟩, st3⟩ := X1.virtualBack hx (y := (⟨"java/lang/String", "charAt", "(I)C"⟩ : MethodName)) (z := (⟨"java/lang/String", "charAt", "(I)C"⟩ : MethodName)) hown (mvT hZ (ww hw 57 rfl)) (mvT hZ (ww hw 58 rfl)) (notFace_of_selects (args := #[]) (mvT hZ (ww hw 60 rfl))) (mvT hZ (ww hw 60 rfl)) (mvT hZ (ww hw 59 rfl)) (by decide) (backOf (W := 0) (rmChr_4_2 l Z a0 hw [] zC vF hvF GS x t kB c0 c1 c2 c3 h0 n0 (by omega) O0 E_x Fv Fc Vt ok2) hZ (ww hw 61 rfl) (ww hw 9 rfl) (by decide) (by decide)) q3a q3c (g := (mkF m 12 #[.val (.ref x), .val (.int 2), .val (.int 2)] [.int 2, .ref x])) rfl (by rw [hml]; rfl) (Steps.refl _) (argsL := [.int 2]) (rest := []) (lenOf own_pd_11 rfl) rfl (by show 2 * 0 + _ ≤ _; exact Nat.le_of_eq rfl) (hb hby own_d6_12) (fun _ _ => ⟨rfl, e1, (by decide : 0 + 0 ≤ _), (by decide : 0 + 0 ≤ _)⟩)
 dsimp only [Pt.U, Pt.locs, Pt.cells, Pt.slots] at X3 l3 y3 z3 st3 hQ3
 subst l3 y3 z3
 obtain ⟨rfl, N3q, e3⟩ := hQ3
 have N4 := Fr.app N2 N3q
 refine own_by (T' := T3) (g' := (mkF m 15 #[.val (.ref x), .val (.int 2), .val (.int 2)] [.int c2])) (fun _ kt_ => st3.trans kt_) ?_
 refine own_by (T' := T3) (g' := (mkF m 17 #[.val (.ref x), .val (.int 2), .val (.int 2)] [.int 48, .int c2])) (fun _ kt_ => XS.bipush X3.here hx rfl (hb hby own_d6_15) kt_) ?_
 by_cases hc5 : c2 < (48 : Int32)
 ·refine own_by (T' := T3) (g' := (mkF m 36 #[.val (.ref x), .val (.int 2), .val (.int 2)] [])) (fun _ kt_ => XS.icmpYes X3.here hx rfl (pc0 := 17) (pc' := 36) rfl (hb hby own_d6_17) rfl (XT.ii_lt_t hc5) (by decide) (by decide) kt_) ?_
  refine own_by (T' := T3) (g' := (mkF m 37 #[.val (.ref x), .val (.int 2), .val (.int 2)] [.int 2])) (fun _ kt_ => XS.iloadN X3.here hx rfl (hb hby own_d6_36) rfl kt_) ?_
  refine own_by (T' := T3) (g' := (mkF m 38 #[.val (.ref x), .val (.int 2), .val (.int 2)] [.int 2, .int 2])) (fun _ kt_ => XS.iloadN X3.here hx rfl (hb hby own_d6_37) rfl kt_) ?_
  refine own_by (T' := T3) (g' := (mkF m 39 #[.val (.ref x), .val (.int 2), .val (.int 2)] [(.int ((2 : Int32) - (2 : Int32)))])) (fun _ kt_ => XS.isub X3.here hx rfl (hb hby own_d6_38) rfl kt_) ?_
  rw [show ((2 : Int32) - (2 : Int32)) = (0 : Int32) from by decide]
  have hr6 : (0 : Int32) = (if c2 < (48 : Int32) then (0 : Int32) else (if (57 : Int32) < c2 then (0 : Int32) else (if c3 < (48 : Int32) then (1 : Int32) else (if (57 : Int32) < c3 then (1 : Int32) else (2 : Int32))))) := by simp [hc5]
  obtain ⟨fs7, hr7, hrun7, hended7, hW7, hsame7⟩ := X3.leave (v := some (.int 0)) (fun h => by rw [Bd.returns] at h; cases h)
  refine ⟨_, _, retOut X3 hx (t := .int) Bd.returns rfl (Or.inl ⟨rfl, Or.inl rfl, _, rfl⟩) (hb hby own_d6_39) hr7, hrun7, hended7, _, _, rfl, ?_, ⟨_, rfl⟩, hW7, hsame7.mono (by decide) (by decide)⟩
  show Q_rmD_4_2 Z zC vF hvF x t kB c0 c1 c2 c3 h0 n0 _ T3.heap _
  exact ⟨(congrArg (fun z => some (Value.int z)) hr6), N4, e3⟩
 ·refine own_by (T' := T3) (g' := (mkF m 20 #[.val (.ref x), .val (.int 2), .val (.int 2)] [])) (fun _ kt_ => XS.icmpNo X3.here hx rfl (hb hby own_d6_17) rfl (XT.ii_lt_f hc5) kt_) ?_
  refine own_by (T' := T3) (g' := (mkF m 21 #[.val (.ref x), .val (.int 2), .val (.int 2)] [.ref x])) (fun _ kt_ => XS.aloadN X3.here hx rfl (hb hby own_d6_20) rfl rfl kt_) ?_
  refine own_by (T' := T3) (g' := (mkF m 22 #[.val (.ref x), .val (.int 2), .val (.int 2)] [.int 2, .ref x])) (fun _ kt_ => XS.iloadN X3.here hx rfl (hb hby own_d6_21) rfl kt_) ?_
  obtain ⟨cq8, kq8, q8a, q8b, q8c⟩ := isOf hZ e3 E_x
  obtain ⟨_, _, ⟨T8, L8, k8, n8⟩, -, X8, ⟨Lc8, hQ8, l8, y8, z8⟩, st8⟩ := X3.virtualBack hx (y := (⟨"java/lang/String", "charAt", "(I)C"⟩ : MethodName)) (z := (⟨"java/lang/String", "charAt", "(I)C"⟩ : MethodName)) hown (mvT hZ (ww hw 57 rfl)) (mvT hZ (ww hw 58 rfl)) (notFace_of_selects (args := #[]) (mvT hZ (ww hw 60 rfl))) (mvT hZ (ww hw 60 rfl)) (mvT hZ (ww hw 59 rfl)) (by decide) (backOf (W := 0) (rmChr_4_2 l Z a0 hw [] zC vF hvF GS x t kB c0 c1 c2 c3 h0 n0 (by omega) O0 E_x Fv Fc Vt ok2) hZ (ww hw 61 rfl) (ww hw 9 rfl) (by decide) (by decide)) q8a q8c (g := (mkF m 22 #[.val (.ref x), .val (.int 2), .val (.int 2)] [.int 2, .ref x])) rfl (by rw [hml]; rfl) (Steps.refl _) (argsL := [.int 2]) (rest := []) (lenOf own_pd_11 rfl) rfl (by show 2 * 0 + _ ≤ _; exact Nat.le_of_eq rfl) (hb hby own_d6_22) (fun _ _ => ⟨rfl, e3, (by decide : 0 + 0 ≤ _), (by decide : 0 + 0 ≤ _)⟩)
  dsimp only [Pt.U, Pt.locs, Pt.cells, Pt.slots] at X8 l8 y8 z8 st8 hQ8
  subst l8 y8 z8
  obtain ⟨rfl, N8q, e8⟩ := hQ8
  have N9 := Fr.app N4 N8q
  refine own_by (T' := T8) (g' := (mkF m 25 #[.val (.ref x), .val (.int 2), .val (.int 2)] [.int c2])) (fun _ kt_ => st8.trans kt_) ?_
  refine own_by (T' := T8) (g' := (mkF m 27 #[.val (.ref x), .val (.int 2), .val (.int 2)] [.int 57, .int c2])) (fun _ kt_ => XS.bipush X8.here hx rfl (hb hby own_d6_25) kt_) ?_
  by_cases hc10 : (57 : Int32) < c2
  ·refine own_by (T' := T8) (g' := (mkF m 36 #[.val (.ref x), .val (.int 2), .val (.int 2)] [])) (fun _ kt_ => XS.icmpYes X8.here hx rfl (pc0 := 27) (pc' := 36) rfl (hb hby own_d6_27) rfl (XT.ii_gt_t hc10) (by decide) (by decide) kt_) ?_
   refine own_by (T' := T8) (g' := (mkF m 37 #[.val (.ref x), .val (.int 2), .val (.int 2)] [.int 2])) (fun _ kt_ => XS.iloadN X8.here hx rfl (hb hby own_d6_36) rfl kt_) ?_
   refine own_by (T' := T8) (g' := (mkF m 38 #[.val (.ref x), .val (.int 2), .val (.int 2)] [.int 2, .int 2])) (fun _ kt_ => XS.iloadN X8.here hx rfl (hb hby own_d6_37) rfl kt_) ?_
   refine own_by (T' := T8) (g' := (mkF m 39 #[.val (.ref x), .val (.int 2), .val (.int 2)] [(.int ((2 : Int32) - (2 : Int32)))])) (fun _ kt_ => XS.isub X8.here hx rfl (hb hby own_d6_38) rfl kt_) ?_
   rw [show ((2 : Int32) - (2 : Int32)) = (0 : Int32) from by decide]
   have hr11 : (0 : Int32) = (if c2 < (48 : Int32) then (0 : Int32) else (if (57 : Int32) < c2 then (0 : Int32) else (if c3 < (48 : Int32) then (1 : Int32) else (if (57 : Int32) < c3 then (1 : Int32) else (2 : Int32))))) := by simp [hc5, hc10]
   obtain ⟨fs12, hr12, hrun12, hended12, hW12, hsame12⟩ := X8.leave (v := some (.int 0)) (fun h => by rw [Bd.returns] at h; cases h)
   refine ⟨_, _, retOut X8 hx (t := .int) Bd.returns rfl (Or.inl ⟨rfl, Or.inl rfl, _, rfl⟩) (hb hby own_d6_39) hr12, hrun12, hended12, _, _, rfl, ?_, ⟨_, rfl⟩, hW12, hsame12.mono (by decide) (by decide)⟩
   show Q_rmD_4_2 Z zC vF hvF x t kB c0 c1 c2 c3 h0 n0 _ T8.heap _
   exact ⟨(congrArg (fun z => some (Value.int z)) hr11), N9, e8⟩
  ·refine own_by (T' := T8) (g' := (mkF m 30 #[.val (.ref x), .val (.int 2), .val (.int 2)] [])) (fun _ kt_ => XS.icmpNo X8.here hx rfl (hb hby own_d6_27) rfl (XT.ii_gt_f hc10) kt_) ?_
   refine own_by (T' := T8) (g' := (mkF m 33 #[.val (.ref x), .val (.int 2), .val (.int ((2 : Int32) + (1 : Int32)))] [])) (fun _ kt_ => XS.iinc X8.here hx rfl (hb hby own_d6_30) rfl (l' := #[.val (.ref x), .val (.int 2), .val (.int ((2 : Int32) + (1 : Int32)))]) rfl kt_) ?_
   rw [show ((2 : Int32) + (1 : Int32)) = (3 : Int32) from by decide]
   refine own_by (T' := T8) (g' := (mkF m 2 #[.val (.ref x), .val (.int 2), .val (.int 3)] [])) (fun _ kt_ => XS.goto X8.here hx rfl (pc0 := 33) (pc' := 2) rfl (hb hby own_d6_33) (by decide) (by decide) kt_) ?_
   refine own_by (T' := T8) (g' := (mkF m 3 #[.val (.ref x), .val (.int 2), .val (.int 3)] [.int 3])) (fun _ kt_ => XS.iloadN X8.here hx rfl (hb hby own_d6_2) rfl kt_) ?_
   refine own_by (T' := T8) (g' := (mkF m 4 #[.val (.ref x), .val (.int 2), .val (.int 3)] [.ref x, .int 3])) (fun _ kt_ => XS.aloadN X8.here hx rfl (hb hby own_d6_3) rfl rfl kt_) ?_
   obtain ⟨cq13, kq13, q13a, q13b, q13c⟩ := isOf hZ e8 E_x
   obtain ⟨_, _, ⟨T13, L13, k13, n13⟩, -, X13, ⟨Lc13, hQ13, l13, y13, z13⟩, st13⟩ := X8.virtualBack hx (y := (⟨"java/lang/String", "length", "()I"⟩ : MethodName)) (z := (⟨"java/lang/String", "length", "()I"⟩ : MethodName)) hown (mvT hZ (ww hw 33 rfl)) (mvT hZ (ww hw 34 rfl)) (notFace_of_selects (args := #[]) (mvT hZ (ww hw 36 rfl))) (mvT hZ (ww hw 36 rfl)) (mvT hZ (ww hw 35 rfl)) (by decide) (backOf (W := 1) (rmLen_4 l Z a0 hw [] zC vF hvF GS x t kB c0 c1 c2 c3 h0 n0 (by omega) O0 E_x Fv Fc Vt) hZ (ww hw 37 rfl) (ww hw 9 rfl) (by decide) (by decide)) q13a q13c (g := (mkF m 4 #[.val (.ref x), .val (.int 2), .val (.int 3)] [.ref x, .int 3])) rfl (by rw [hml]; rfl) (Steps.refl _) (argsL := []) (rest := [.int 3]) (lenOf own_pd_10 rfl) rfl (by show 2 * 0 + _ ≤ _; exact Nat.le_of_eq rfl) (hb hby own_d6_4) (fun _ _ => ⟨rfl, e8, (by decide : 0 + 0 ≤ _), (by decide : 0 + 0 ≤ _)⟩)
   dsimp only [Pt.U, Pt.locs, Pt.cells, Pt.slots] at X13 l13 y13 z13 st13 hQ13
   subst l13 y13 z13
   obtain ⟨rfl, N13q, e13⟩ := hQ13
   have N14 := Fr.app N9 N13q
   refine own_by (T' := T13) (g' := (mkF m 7 #[.val (.ref x), .val (.int 2), .val (.int 3)] [.int 4, .int 3])) (fun _ kt_ => st13.trans kt_) ?_
   refine own_by (T' := T13) (g' := (mkF m 10 #[.val (.ref x), .val (.int 2), .val (.int 3)] [])) (fun _ kt_ => XS.icmpNo X13.here hx rfl (hb hby own_d6_7) rfl (XT.ii_ge_f (by decide)) kt_) ?_
   refine own_by (T' := T13) (g' := (mkF m 11 #[.val (.ref x), .val (.int 2), .val (.int 3)] [.ref x])) (fun _ kt_ => XS.aloadN X13.here hx rfl (hb hby own_d6_10) rfl rfl kt_) ?_
   refine own_by (T' := T13) (g' := (mkF m 12 #[.val (.ref x), .val (.int 2), .val (.int 3)] [.int 3, .ref x])) (fun _ kt_ => XS.iloadN X13.here hx rfl (hb hby own_d6_11) rfl kt_) ?_
   obtain ⟨cq15, kq15, q15a, q15b, q15c⟩ := isOf hZ e13 E_x
   obtain ⟨_, _, ⟨T15, L15, k15, n15⟩, -, X15, ⟨Lc15, hQ15, l15, y15, z15⟩, st15⟩ := X13.virtualBack hx (y := (⟨"java/lang/String", "charAt", "(I)C"⟩ : MethodName)) (z := (⟨"java/lang/String", "charAt", "(I)C"⟩ : MethodName)) hown (mvT hZ (ww hw 57 rfl)) (mvT hZ (ww hw 58 rfl)) (notFace_of_selects (args := #[]) (mvT hZ (ww hw 60 rfl))) (mvT hZ (ww hw 60 rfl)) (mvT hZ (ww hw 59 rfl)) (by decide) (backOf (W := 0) (rmChr_4_3 l Z a0 hw [] zC vF hvF GS x t kB c0 c1 c2 c3 h0 n0 (by omega) O0 E_x Fv Fc Vt ok3) hZ (ww hw 61 rfl) (ww hw 9 rfl) (by decide) (by decide)) q15a q15c (g := (mkF m 12 #[.val (.ref x), .val (.int 2), .val (.int 3)] [.int 3, .ref x])) rfl (by rw [hml]; rfl) (Steps.refl _) (argsL := [.int 3]) (rest := []) (lenOf own_pd_11 rfl) rfl (by show 2 * 0 + _ ≤ _; exact Nat.le_of_eq rfl) (hb hby own_d6_12) (fun _ _ => ⟨rfl, e13, (by decide : 0 + 0 ≤ _), (by decide : 0 + 0 ≤ _)⟩)
   dsimp only [Pt.U, Pt.locs, Pt.cells, Pt.slots] at X15 l15 y15 z15 st15 hQ15
   subst l15 y15 z15
   obtain ⟨rfl, N15q, e15⟩ := hQ15
   have N16 := Fr.app N14 N15q
   refine own_by (T' := T15) (g' := (mkF m 15 #[.val (.ref x), .val (.int 2), .val (.int 3)] [.int c3])) (fun _ kt_ => st15.trans kt_) ?_
   refine own_by (T' := T15) (g' := (mkF m 17 #[.val (.ref x), .val (.int 2), .val (.int 3)] [.int 48, .int c3])) (fun _ kt_ => XS.bipush X15.here hx rfl (hb hby own_d6_15) kt_) ?_
   by_cases hc17 : c3 < (48 : Int32)
   ·refine own_by (T' := T15) (g' := (mkF m 36 #[.val (.ref x), .val (.int 2), .val (.int 3)] [])) (fun _ kt_ => XS.icmpYes X15.here hx rfl (pc0 := 17) (pc' := 36) rfl (hb hby own_d6_17) rfl (XT.ii_lt_t hc17) (by decide) (by decide) kt_) ?_
    refine own_by (T' := T15) (g' := (mkF m 37 #[.val (.ref x), .val (.int 2), .val (.int 3)] [.int 3])) (fun _ kt_ => XS.iloadN X15.here hx rfl (hb hby own_d6_36) rfl kt_) ?_
    refine own_by (T' := T15) (g' := (mkF m 38 #[.val (.ref x), .val (.int 2), .val (.int 3)] [.int 2, .int 3])) (fun _ kt_ => XS.iloadN X15.here hx rfl (hb hby own_d6_37) rfl kt_) ?_
    refine own_by (T' := T15) (g' := (mkF m 39 #[.val (.ref x), .val (.int 2), .val (.int 3)] [(.int ((3 : Int32) - (2 : Int32)))])) (fun _ kt_ => XS.isub X15.here hx rfl (hb hby own_d6_38) rfl kt_) ?_
    rw [show ((3 : Int32) - (2 : Int32)) = (1 : Int32) from by decide]
    have hr18 : (1 : Int32) = (if c2 < (48 : Int32) then (0 : Int32) else (if (57 : Int32) < c2 then (0 : Int32) else (if c3 < (48 : Int32) then (1 : Int32) else (if (57 : Int32) < c3 then (1 : Int32) else (2 : Int32))))) := by simp [hc5, hc10, hc17]
    obtain ⟨fs19, hr19, hrun19, hended19, hW19, hsame19⟩ := X15.leave (v := some (.int 1)) (fun h => by rw [Bd.returns] at h; cases h)
    refine ⟨_, _, retOut X15 hx (t := .int) Bd.returns rfl (Or.inl ⟨rfl, Or.inl rfl, _, rfl⟩) (hb hby own_d6_39) hr19, hrun19, hended19, _, _, rfl, ?_, ⟨_, rfl⟩, hW19, hsame19.mono (by decide) (by decide)⟩
    show Q_rmD_4_2 Z zC vF hvF x t kB c0 c1 c2 c3 h0 n0 _ T15.heap _
    exact ⟨(congrArg (fun z => some (Value.int z)) hr18), N16, e15⟩
   ·refine own_by (T' := T15) (g' := (mkF m 20 #[.val (.ref x), .val (.int 2), .val (.int 3)] [])) (fun _ kt_ => XS.icmpNo X15.here hx rfl (hb hby own_d6_17) rfl (XT.ii_lt_f hc17) kt_) ?_
    refine own_by (T' := T15) (g' := (mkF m 21 #[.val (.ref x), .val (.int 2), .val (.int 3)] [.ref x])) (fun _ kt_ => XS.aloadN X15.here hx rfl (hb hby own_d6_20) rfl rfl kt_) ?_
    refine own_by (T' := T15) (g' := (mkF m 22 #[.val (.ref x), .val (.int 2), .val (.int 3)] [.int 3, .ref x])) (fun _ kt_ => XS.iloadN X15.here hx rfl (hb hby own_d6_21) rfl kt_) ?_
    obtain ⟨cq20, kq20, q20a, q20b, q20c⟩ := isOf hZ e15 E_x
    obtain ⟨_, _, ⟨T20, L20, k20, n20⟩, -, X20, ⟨Lc20, hQ20, l20, y20, z20⟩, st20⟩ := X15.virtualBack hx (y := (⟨"java/lang/String", "charAt", "(I)C"⟩ : MethodName)) (z := (⟨"java/lang/String", "charAt", "(I)C"⟩ : MethodName)) hown (mvT hZ (ww hw 57 rfl)) (mvT hZ (ww hw 58 rfl)) (notFace_of_selects (args := #[]) (mvT hZ (ww hw 60 rfl))) (mvT hZ (ww hw 60 rfl)) (mvT hZ (ww hw 59 rfl)) (by decide) (backOf (W := 0) (rmChr_4_3 l Z a0 hw [] zC vF hvF GS x t kB c0 c1 c2 c3 h0 n0 (by omega) O0 E_x Fv Fc Vt ok3) hZ (ww hw 61 rfl) (ww hw 9 rfl) (by decide) (by decide)) q20a q20c (g := (mkF m 22 #[.val (.ref x), .val (.int 2), .val (.int 3)] [.int 3, .ref x])) rfl (by rw [hml]; rfl) (Steps.refl _) (argsL := [.int 3]) (rest := []) (lenOf own_pd_11 rfl) rfl (by show 2 * 0 + _ ≤ _; exact Nat.le_of_eq rfl) (hb hby own_d6_22) (fun _ _ => ⟨rfl, e15, (by decide : 0 + 0 ≤ _), (by decide : 0 + 0 ≤ _)⟩)
    dsimp only [Pt.U, Pt.locs, Pt.cells, Pt.slots] at X20 l20 y20 z20 st20 hQ20
    subst l20 y20 z20
    obtain ⟨rfl, N20q, e20⟩ := hQ20
    have N21 := Fr.app N16 N20q
    refine own_by (T' := T20) (g' := (mkF m 25 #[.val (.ref x), .val (.int 2), .val (.int 3)] [.int c3])) (fun _ kt_ => st20.trans kt_) ?_
    refine own_by (T' := T20) (g' := (mkF m 27 #[.val (.ref x), .val (.int 2), .val (.int 3)] [.int 57, .int c3])) (fun _ kt_ => XS.bipush X20.here hx rfl (hb hby own_d6_25) kt_) ?_
    by_cases hc22 : (57 : Int32) < c3
    ·refine own_by (T' := T20) (g' := (mkF m 36 #[.val (.ref x), .val (.int 2), .val (.int 3)] [])) (fun _ kt_ => XS.icmpYes X20.here hx rfl (pc0 := 27) (pc' := 36) rfl (hb hby own_d6_27) rfl (XT.ii_gt_t hc22) (by decide) (by decide) kt_) ?_
     refine own_by (T' := T20) (g' := (mkF m 37 #[.val (.ref x), .val (.int 2), .val (.int 3)] [.int 3])) (fun _ kt_ => XS.iloadN X20.here hx rfl (hb hby own_d6_36) rfl kt_) ?_
     refine own_by (T' := T20) (g' := (mkF m 38 #[.val (.ref x), .val (.int 2), .val (.int 3)] [.int 2, .int 3])) (fun _ kt_ => XS.iloadN X20.here hx rfl (hb hby own_d6_37) rfl kt_) ?_
     refine own_by (T' := T20) (g' := (mkF m 39 #[.val (.ref x), .val (.int 2), .val (.int 3)] [(.int ((3 : Int32) - (2 : Int32)))])) (fun _ kt_ => XS.isub X20.here hx rfl (hb hby own_d6_38) rfl kt_) ?_
     rw [show ((3 : Int32) - (2 : Int32)) = (1 : Int32) from by decide]
     have hr23 : (1 : Int32) = (if c2 < (48 : Int32) then (0 : Int32) else (if (57 : Int32) < c2 then (0 : Int32) else (if c3 < (48 : Int32) then (1 : Int32) else (if (57 : Int32) < c3 then (1 : Int32) else (2 : Int32))))) := by simp [hc5, hc10, hc17, hc22]
     obtain ⟨fs24, hr24, hrun24, hended24, hW24, hsame24⟩ := X20.leave (v := some (.int 1)) (fun h => by rw [Bd.returns] at h; cases h)
     refine ⟨_, _, retOut X20 hx (t := .int) Bd.returns rfl (Or.inl ⟨rfl, Or.inl rfl, _, rfl⟩) (hb hby own_d6_39) hr24, hrun24, hended24, _, _, rfl, ?_, ⟨_, rfl⟩, hW24, hsame24.mono (by decide) (by decide)⟩
     show Q_rmD_4_2 Z zC vF hvF x t kB c0 c1 c2 c3 h0 n0 _ T20.heap _
     exact ⟨(congrArg (fun z => some (Value.int z)) hr23), N21, e20⟩
    ·refine own_by (T' := T20) (g' := (mkF m 30 #[.val (.ref x), .val (.int 2), .val (.int 3)] [])) (fun _ kt_ => XS.icmpNo X20.here hx rfl (hb hby own_d6_27) rfl (XT.ii_gt_f hc22) kt_) ?_
     refine own_by (T' := T20) (g' := (mkF m 33 #[.val (.ref x), .val (.int 2), .val (.int ((3 : Int32) + (1 : Int32)))] [])) (fun _ kt_ => XS.iinc X20.here hx rfl (hb hby own_d6_30) rfl (l' := #[.val (.ref x), .val (.int 2), .val (.int ((3 : Int32) + (1 : Int32)))]) rfl kt_) ?_
     rw [show ((3 : Int32) + (1 : Int32)) = (4 : Int32) from by decide]
     refine own_by (T' := T20) (g' := (mkF m 2 #[.val (.ref x), .val (.int 2), .val (.int 4)] [])) (fun _ kt_ => XS.goto X20.here hx rfl (pc0 := 33) (pc' := 2) rfl (hb hby own_d6_33) (by decide) (by decide) kt_) ?_
     refine own_by (T' := T20) (g' := (mkF m 3 #[.val (.ref x), .val (.int 2), .val (.int 4)] [.int 4])) (fun _ kt_ => XS.iloadN X20.here hx rfl (hb hby own_d6_2) rfl kt_) ?_
     refine own_by (T' := T20) (g' := (mkF m 4 #[.val (.ref x), .val (.int 2), .val (.int 4)] [.ref x, .int 4])) (fun _ kt_ => XS.aloadN X20.here hx rfl (hb hby own_d6_3) rfl rfl kt_) ?_
     obtain ⟨cq25, kq25, q25a, q25b, q25c⟩ := isOf hZ e20 E_x
     obtain ⟨_, _, ⟨T25, L25, k25, n25⟩, -, X25, ⟨Lc25, hQ25, l25, y25, z25⟩, st25⟩ := X20.virtualBack hx (y := (⟨"java/lang/String", "length", "()I"⟩ : MethodName)) (z := (⟨"java/lang/String", "length", "()I"⟩ : MethodName)) hown (mvT hZ (ww hw 33 rfl)) (mvT hZ (ww hw 34 rfl)) (notFace_of_selects (args := #[]) (mvT hZ (ww hw 36 rfl))) (mvT hZ (ww hw 36 rfl)) (mvT hZ (ww hw 35 rfl)) (by decide) (backOf (W := 1) (rmLen_4 l Z a0 hw [] zC vF hvF GS x t kB c0 c1 c2 c3 h0 n0 (by omega) O0 E_x Fv Fc Vt) hZ (ww hw 37 rfl) (ww hw 9 rfl) (by decide) (by decide)) q25a q25c (g := (mkF m 4 #[.val (.ref x), .val (.int 2), .val (.int 4)] [.ref x, .int 4])) rfl (by rw [hml]; rfl) (Steps.refl _) (argsL := []) (rest := [.int 4]) (lenOf own_pd_10 rfl) rfl (by show 2 * 0 + _ ≤ _; exact Nat.le_of_eq rfl) (hb hby own_d6_4) (fun _ _ => ⟨rfl, e20, (by decide : 0 + 0 ≤ _), (by decide : 0 + 0 ≤ _)⟩)
     dsimp only [Pt.U, Pt.locs, Pt.cells, Pt.slots] at X25 l25 y25 z25 st25 hQ25
     subst l25 y25 z25
     obtain ⟨rfl, N25q, e25⟩ := hQ25
     have N26 := Fr.app N21 N25q
     refine own_by (T' := T25) (g' := (mkF m 7 #[.val (.ref x), .val (.int 2), .val (.int 4)] [.int 4, .int 4])) (fun _ kt_ => st25.trans kt_) ?_
     refine own_by (T' := T25) (g' := (mkF m 36 #[.val (.ref x), .val (.int 2), .val (.int 4)] [])) (fun _ kt_ => XS.icmpYes X25.here hx rfl (pc0 := 7) (pc' := 36) rfl (hb hby own_d6_7) rfl (XT.ii_ge_t (by decide)) (by decide) (by decide) kt_) ?_
     refine own_by (T' := T25) (g' := (mkF m 37 #[.val (.ref x), .val (.int 2), .val (.int 4)] [.int 4])) (fun _ kt_ => XS.iloadN X25.here hx rfl (hb hby own_d6_36) rfl kt_) ?_
     refine own_by (T' := T25) (g' := (mkF m 38 #[.val (.ref x), .val (.int 2), .val (.int 4)] [.int 2, .int 4])) (fun _ kt_ => XS.iloadN X25.here hx rfl (hb hby own_d6_37) rfl kt_) ?_
     refine own_by (T' := T25) (g' := (mkF m 39 #[.val (.ref x), .val (.int 2), .val (.int 4)] [(.int ((4 : Int32) - (2 : Int32)))])) (fun _ kt_ => XS.isub X25.here hx rfl (hb hby own_d6_38) rfl kt_) ?_
     rw [show ((4 : Int32) - (2 : Int32)) = (2 : Int32) from by decide]
     have hr27 : (2 : Int32) = (if c2 < (48 : Int32) then (0 : Int32) else (if (57 : Int32) < c2 then (0 : Int32) else (if c3 < (48 : Int32) then (1 : Int32) else (if (57 : Int32) < c3 then (1 : Int32) else (2 : Int32))))) := by simp [hc5, hc10, hc17, hc22]
     obtain ⟨fs28, hr28, hrun28, hended28, hW28, hsame28⟩ := X25.leave (v := some (.int 2)) (fun h => by rw [Bd.returns] at h; cases h)
     refine ⟨_, _, retOut X25 hx (t := .int) Bd.returns rfl (Or.inl ⟨rfl, Or.inl rfl, _, rfl⟩) (hb hby own_d6_39) hr28, hrun28, hended28, _, _, rfl, ?_, ⟨_, rfl⟩, hW28, hsame28.mono (by decide) (by decide)⟩
     show Q_rmD_4_2 Z zC vF hvF x t kB c0 c1 c2 c3 h0 n0 _ T25.heap _
     exact ⟨(congrArg (fun z => some (Value.int z)) hr27), N26, e25⟩
theorem own_ef_rmD_1_0 (m : MethodId) (x0 : Addr) (x1 : Int32) : entryFrame m #[.ref x0, .int x1] 3 = mkF m 0 #[.val (.ref x0), .val (.int x1), .unset] [] := by first | (simp [entryFrame, mkF, argsToLocals, Value.category]; done) | rfl
def Q_rmD_1_0 (Z : State) (zC : Int32) (vF : Value) (hvF : vF.isRef = true) (x : Addr) (t : Addr) (kB : ClassId) (c0 : Int32) (h0 : Heap) (n0 : Nat) (vv_ : Option Value) (hh_ : Heap) (LL_ : List Loc) : Prop := vv_ = some (.int (if c0 < (48 : Int32) then (0 : Int32) else (if (57 : Int32) < c0 then (0 : Int32) else (1 : Int32)))) ∧ Fr n0 LL_ ∧ hh_ = h0
set_option maxRecDepth 65536 in
set_option maxHeartbeats 40000000 in
theorem rmD_1_0 (l : Launch) (Z : State) (a0 : Array Value) (hw : ∀ d ∈ tables_1, d.before a0 Z = true) (ws : List Jvm.Cond) (zC : Int32) (vF : Value) (hvF : vF.isRef = true) (GS : Glob Z zC vF hvF) (x : Addr) (t : Addr) (kB : ClassId) (c0 : Int32) (h0 : Heap) (n0 : Nat) (Z0 : n0 ≤ h0.size) (O0 : Old Z n0 h0) (E_x : Exa Z h0 x "java/lang/String") (Fv : Fld Z h0 x "java/lang/String" "value" "[B" (.ref t)) (Fc : Fld Z h0 x "java/lang/String" "coder" "B" (.int 0)) (Vt : Arv Z h0 t kB .byte (1 : Int32) [(.int c0.toInt8.toInt32)] (.int 0)) (ok0 : okF c0) :
  MetFree l (⟨"com/example/vestledger/vestledger/journal/JournalDecimals", "digitsFrom", "(Ljava/lang/String;I)I"⟩ : MethodName) (head1 (Jvm.Cond.code (⟨"com/example/vestledger/vestledger/journal/JournalDecimals", "digitsFrom", "(Ljava/lang/String;I)I"⟩ : MethodName) prog_21_method_5_code 3 (some .int) :: ws) (⟨4, 0, 0, 53⟩ : Room)) (fun aa_ UU_ => aa_ = #[.ref x, .int 0] ∧ Z.Warmed39 UU_.vm ∧ UU_.heap = h0) (fun _ _ _ _ _ => True) (fun _ UU_ oo_ UV_ => ∃ vv_ LL_, oo_ = .returned vv_ ∧ Q_rmD_1_0 Z zC vF hvF x t kB c0 h0 n0 vv_ UV_.heap LL_ ∧ FrameEnd UU_ oo_ UV_ LL_ (⟨4, 0, 0, 53⟩ : Room).cells (⟨4, 0, 0, 53⟩ : Room).slots) := by
 refine MetFree.of_bodySF (plainFor_of_name own_pn_com_example_vestledger_vestledger_journal_JournalDecimals) hisR ?_
 intro p e s m args below meth c s₁ Bd hml0 hP hK
 obtain ⟨rfl, hZ, hh⟩ := hP
 have hx := Bd.exec
 have hby := Bd.bytes
 have hml : c.maxLocals = 3 := hml0
 have hown : s.vm.findClass "com/example/vestledger/vestledger/journal/JournalDecimals" = some m.cls := findClass_of_methodNamed Bd.named
 have hnm := (name_of_methodNamed Bd.named Bd.method).1
 have X0 : Stand p l e (⟨4, 0, 0, 53⟩ : Room) s m #[.ref x, .int 0] below meth c s₁ [] 0 0 := Stand.of_body Bd
 have e0 : s₁.heap = h0 := by rw [← hh, Bd.state]; rfl
 have N0 := Fr.nil n0
 have hn0 : Z.heap.size = n0 := O0.1
 have KT0 : Keep h0 h0 [] := Keep.refl _ _
 refine own_enter (Φ := fun oo_ UV_ => ∃ vv_ LL_, oo_ = .returned vv_ ∧ Q_rmD_1_0 Z zC vF hvF x t kB c0 h0 n0 vv_ UV_.heap LL_ ∧ FrameEnd s oo_ UV_ LL_ (⟨4, 0, 0, 53⟩ : Room).cells (⟨4, 0, 0, 53⟩ : Room).slots) (own_ef_rmD_1_0 m x (0 : Int32)) ?_
 refine own_by (T' := s₁) (g' := (mkF m 1 #[.val (.ref x), .val (.int 0), .unset] [.int 0])) (fun _ kt_ => XS.iloadN X0.here hx rfl (hb hby own_d6_0) rfl kt_) ?_
 refine own_by (T' := s₁) (g' := (mkF m 2 #[.val (.ref x), .val (.int 0), .val (.int 0)] [])) (fun _ kt_ => XS.istoreN X0.here hx rfl (hb hby own_d6_1) rfl (l' := #[.val (.ref x), .val (.int 0), .val (.int 0)]) rfl kt_) ?_
 refine own_by (T' := s₁) (g' := (mkF m 3 #[.val (.ref x), .val (.int 0), .val (.int 0)] [.int 0])) (fun _ kt_ => XS.iloadN X0.here hx rfl (hb hby own_d6_2) rfl kt_) ?_
 refine own_by (T' := s₁) (g' := (mkF m 4 #[.val (.ref x), .val (.int 0), .val (.int 0)] [.ref x, .int 0])) (fun _ kt_ => XS.aloadN X0.here hx rfl (hb hby own_d6_3) rfl rfl kt_) ?_
 obtain ⟨cq1, kq1, q1a, q1b, q1c⟩ := isOf hZ e0 E_x
 obtain ⟨_, _, ⟨T1, L1, k1, n1⟩, -, X1, ⟨Lc1, hQ1, l1, y1, z1⟩, st1⟩ := X0.virtualBack hx (y := (⟨"java/lang/String", "length", "()I"⟩ : MethodName)) (z := (⟨"java/lang/String", "length", "()I"⟩ : MethodName)) hown (mvT hZ (ww hw 33 rfl)) (mvT hZ (ww hw 34 rfl)) (notFace_of_selects (args := #[]) (mvT hZ (ww hw 36 rfl))) (mvT hZ (ww hw 36 rfl)) (mvT hZ (ww hw 35 rfl)) (by decide) (backOf (W := 1) (rmLen_1 l Z a0 hw [] zC vF hvF GS x t kB c0 h0 n0 (by omega) O0 E_x Fv Fc Vt) hZ (ww hw 37 rfl) (ww hw 9 rfl) (by decide) (by decide)) q1a q1c (g := (mkF m 4 #[.val (.ref x), .val (.int 0), .val (.int 0)] [.ref x, .int 0])) rfl (by rw [hml]; rfl) (Steps.refl _) (argsL := []) (rest := [.int 0]) (lenOf own_pd_10 rfl) rfl (by show 2 * 0 + _ ≤ _; exact Nat.le_of_eq rfl) (hb hby own_d6_4) (fun _ _ => ⟨rfl, e0, (by decide : 0 + 0 ≤ _), (by decide : 0 + 0 ≤ _)⟩)
 dsimp only [Pt.U, Pt.locs, Pt.cells, Pt.slots] at X1 l1 y1 z1 st1 hQ1
 subst l1 y1 z1
 obtain ⟨rfl, N1q, e1⟩ := hQ1
 have N2 := Fr.app N0 N1q
 refine own_by (T' := T1) (g' := (mkF m 7 #[.val (.ref x), .val (.int 0), .val (.int 0)] [.int 1, .int 0])) (fun _ kt_ => st1.trans kt_) ?_
 refine own_by (T' := T1) (g' := (mkF m 10 #[.val (.ref x), .val (.int 0), .val (.int 0)] [])) (fun _ kt_ => XS.icmpNo X1.here hx rfl (hb hby own_d6_7) rfl (XT.ii_ge_f (by decide)) kt_) ?_
 refine own_by (T' := T1) (g' := (mkF m 11 #[.val (.ref x), .val (.int 0), .val (.int 0)] [.ref x])) (fun _ kt_ => XS.aloadN X1.here hx rfl (hb hby own_d6_10) rfl rfl kt_) ?_
 refine own_by (T' := T1) (g' := (mkF m 12 #[.val (.ref x), .val (.int 0), .val (.int 0)] [.int 0, .ref x])) (fun _ kt_ => XS.iloadN X1.here hx rfl (hb hby own_d6_11) rfl kt_) ?_
 obtain ⟨cq3, kq3, q3a, q3b, q3c⟩ := isOf hZ e1 E_x
 obtain ⟨_, _, ⟨T3, L3, k3, n3⟩, -, X3, ⟨Lc3, hQ3, l3, y3, z3⟩, st3⟩ := X1.virtualBack hx (y := (⟨"java/lang/String", "charAt", "(I)C"⟩ : MethodName)) (z := (⟨"java/lang/String", "charAt", "(I)C"⟩ : MethodName)) hown (mvT hZ (ww hw 57 rfl)) (mvT hZ (ww hw 58 rfl)) (notFace_of_selects (args := #[]) (mvT hZ (ww hw 60 rfl))) (mvT hZ (ww hw 60 rfl)) (mvT hZ (ww hw 59 rfl)) (by decide) (backOf (W := 0) (rmChr_1_0 l Z a0 hw [] zC vF hvF GS x t kB c0 h0 n0 (by omega) O0 E_x Fv Fc Vt ok0) hZ (ww hw 61 rfl) (ww hw 9 rfl) (by decide) (by decide)) q3a q3c (g := (mkF m 12 #[.val (.ref x), .val (.int 0), .val (.int 0)] [.int 0, .ref x])) rfl (by rw [hml]; rfl) (Steps.refl _) (argsL := [.int 0]) (rest := []) (lenOf own_pd_11 rfl) rfl (by show 2 * 0 + _ ≤ _; exact Nat.le_of_eq rfl) (hb hby own_d6_12) (fun _ _ => ⟨rfl, e1, (by decide : 0 + 0 ≤ _), (by decide : 0 + 0 ≤ _)⟩)
 dsimp only [Pt.U, Pt.locs, Pt.cells, Pt.slots] at X3 l3 y3 z3 st3 hQ3
 subst l3 y3 z3
 obtain ⟨rfl, N3q, e3⟩ := hQ3
 have N4 := Fr.app N2 N3q
 refine own_by (T' := T3) (g' := (mkF m 15 #[.val (.ref x), .val (.int 0), .val (.int 0)] [.int c0])) (fun _ kt_ => st3.trans kt_) ?_
 refine own_by (T' := T3) (g' := (mkF m 17 #[.val (.ref x), .val (.int 0), .val (.int 0)] [.int 48, .int c0])) (fun _ kt_ => XS.bipush X3.here hx rfl (hb hby own_d6_15) kt_) ?_
 by_cases hc5 : c0 < (48 : Int32)
 ·refine own_by (T' := T3) (g' := (mkF m 36 #[.val (.ref x), .val (.int 0), .val (.int 0)] [])) (fun _ kt_ => XS.icmpYes X3.here hx rfl (pc0 := 17) (pc' := 36) rfl (hb hby own_d6_17) rfl (XT.ii_lt_t hc5) (by decide) (by decide) kt_) ?_
  refine own_by (T' := T3) (g' := (mkF m 37 #[.val (.ref x), .val (.int 0), .val (.int 0)] [.int 0])) (fun _ kt_ => XS.iloadN X3.here hx rfl (hb hby own_d6_36) rfl kt_) ?_
  refine own_by (T' := T3) (g' := (mkF m 38 #[.val (.ref x), .val (.int 0), .val (.int 0)] [.int 0, .int 0])) (fun _ kt_ => XS.iloadN X3.here hx rfl (hb hby own_d6_37) rfl kt_) ?_
  refine own_by (T' := T3) (g' := (mkF m 39 #[.val (.ref x), .val (.int 0), .val (.int 0)] [(.int ((0 : Int32) - (0 : Int32)))])) (fun _ kt_ => XS.isub X3.here hx rfl (hb hby own_d6_38) rfl kt_) ?_
  rw [show ((0 : Int32) - (0 : Int32)) = (0 : Int32) from by decide]
  have hr6 : (0 : Int32) = (if c0 < (48 : Int32) then (0 : Int32) else (if (57 : Int32) < c0 then (0 : Int32) else (1 : Int32))) := by simp [hc5]
  obtain ⟨fs7, hr7, hrun7, hended7, hW7, hsame7⟩ := X3.leave (v := some (.int 0)) (fun h => by rw [Bd.returns] at h; cases h)
  refine ⟨_, _, retOut X3 hx (t := .int) Bd.returns rfl (Or.inl ⟨rfl, Or.inl rfl, _, rfl⟩) (hb hby own_d6_39) hr7, hrun7, hended7, _, _, rfl, ?_, ⟨_, rfl⟩, hW7, hsame7.mono (by decide) (by decide)⟩
  show Q_rmD_1_0 Z zC vF hvF x t kB c0 h0 n0 _ T3.heap _
  exact ⟨(congrArg (fun z => some (Value.int z)) hr6), N4, e3⟩
 ·refine own_by (T' := T3) (g' := (mkF m 20 #[.val (.ref x), .val (.int 0), .val (.int 0)] [])) (fun _ kt_ => XS.icmpNo X3.here hx rfl (hb hby own_d6_17) rfl (XT.ii_lt_f hc5) kt_) ?_
  refine own_by (T' := T3) (g' := (mkF m 21 #[.val (.ref x), .val (.int 0), .val (.int 0)] [.ref x])) (fun _ kt_ => XS.aloadN X3.here hx rfl (hb hby own_d6_20) rfl rfl kt_) ?_
  refine own_by (T' := T3) (g' := (mkF m 22 #[.val (.ref x), .val (.int 0), .val (.int 0)] [.int 0, .ref x])) (fun _ kt_ => XS.iloadN X3.here hx rfl (hb hby own_d6_21) rfl kt_) ?_
  obtain ⟨cq8, kq8, q8a, q8b, q8c⟩ := isOf hZ e3 E_x
  obtain ⟨_, _, ⟨T8, L8, k8, n8⟩, -, X8, ⟨Lc8, hQ8, l8, y8, z8⟩, st8⟩ := X3.virtualBack hx (y := (⟨"java/lang/String", "charAt", "(I)C"⟩ : MethodName)) (z := (⟨"java/lang/String", "charAt", "(I)C"⟩ : MethodName)) hown (mvT hZ (ww hw 57 rfl)) (mvT hZ (ww hw 58 rfl)) (notFace_of_selects (args := #[]) (mvT hZ (ww hw 60 rfl))) (mvT hZ (ww hw 60 rfl)) (mvT hZ (ww hw 59 rfl)) (by decide) (backOf (W := 0) (rmChr_1_0 l Z a0 hw [] zC vF hvF GS x t kB c0 h0 n0 (by omega) O0 E_x Fv Fc Vt ok0) hZ (ww hw 61 rfl) (ww hw 9 rfl) (by decide) (by decide)) q8a q8c (g := (mkF m 22 #[.val (.ref x), .val (.int 0), .val (.int 0)] [.int 0, .ref x])) rfl (by rw [hml]; rfl) (Steps.refl _) (argsL := [.int 0]) (rest := []) (lenOf own_pd_11 rfl) rfl (by show 2 * 0 + _ ≤ _; exact Nat.le_of_eq rfl) (hb hby own_d6_22) (fun _ _ => ⟨rfl, e3, (by decide : 0 + 0 ≤ _), (by decide : 0 + 0 ≤ _)⟩)
  dsimp only [Pt.U, Pt.locs, Pt.cells, Pt.slots] at X8 l8 y8 z8 st8 hQ8
  subst l8 y8 z8
  obtain ⟨rfl, N8q, e8⟩ := hQ8
  have N9 := Fr.app N4 N8q
  refine own_by (T' := T8) (g' := (mkF m 25 #[.val (.ref x), .val (.int 0), .val (.int 0)] [.int c0])) (fun _ kt_ => st8.trans kt_) ?_
  refine own_by (T' := T8) (g' := (mkF m 27 #[.val (.ref x), .val (.int 0), .val (.int 0)] [.int 57, .int c0])) (fun _ kt_ => XS.bipush X8.here hx rfl (hb hby own_d6_25) kt_) ?_
  by_cases hc10 : (57 : Int32) < c0
  ·refine own_by (T' := T8) (g' := (mkF m 36 #[.val (.ref x), .val (.int 0), .val (.int 0)] [])) (fun _ kt_ => XS.icmpYes X8.here hx rfl (pc0 := 27) (pc' := 36) rfl (hb hby own_d6_27) rfl (XT.ii_gt_t hc10) (by decide) (by decide) kt_) ?_
   refine own_by (T' := T8) (g' := (mkF m 37 #[.val (.ref x), .val (.int 0), .val (.int 0)] [.int 0])) (fun _ kt_ => XS.iloadN X8.here hx rfl (hb hby own_d6_36) rfl kt_) ?_
   refine own_by (T' := T8) (g' := (mkF m 38 #[.val (.ref x), .val (.int 0), .val (.int 0)] [.int 0, .int 0])) (fun _ kt_ => XS.iloadN X8.here hx rfl (hb hby own_d6_37) rfl kt_) ?_
   refine own_by (T' := T8) (g' := (mkF m 39 #[.val (.ref x), .val (.int 0), .val (.int 0)] [(.int ((0 : Int32) - (0 : Int32)))])) (fun _ kt_ => XS.isub X8.here hx rfl (hb hby own_d6_38) rfl kt_) ?_
   rw [show ((0 : Int32) - (0 : Int32)) = (0 : Int32) from by decide]
   have hr11 : (0 : Int32) = (if c0 < (48 : Int32) then (0 : Int32) else (if (57 : Int32) < c0 then (0 : Int32) else (1 : Int32))) := by simp [hc5, hc10]
   obtain ⟨fs12, hr12, hrun12, hended12, hW12, hsame12⟩ := X8.leave (v := some (.int 0)) (fun h => by rw [Bd.returns] at h; cases h)
   refine ⟨_, _, retOut X8 hx (t := .int) Bd.returns rfl (Or.inl ⟨rfl, Or.inl rfl, _, rfl⟩) (hb hby own_d6_39) hr12, hrun12, hended12, _, _, rfl, ?_, ⟨_, rfl⟩, hW12, hsame12.mono (by decide) (by decide)⟩
   show Q_rmD_1_0 Z zC vF hvF x t kB c0 h0 n0 _ T8.heap _
   exact ⟨(congrArg (fun z => some (Value.int z)) hr11), N9, e8⟩
  ·refine own_by (T' := T8) (g' := (mkF m 30 #[.val (.ref x), .val (.int 0), .val (.int 0)] [])) (fun _ kt_ => XS.icmpNo X8.here hx rfl (hb hby own_d6_27) rfl (XT.ii_gt_f hc10) kt_) ?_
   refine own_by (T' := T8) (g' := (mkF m 33 #[.val (.ref x), .val (.int 0), .val (.int ((0 : Int32) + (1 : Int32)))] [])) (fun _ kt_ => XS.iinc X8.here hx rfl (hb hby own_d6_30) rfl (l' := #[.val (.ref x), .val (.int 0), .val (.int ((0 : Int32) + (1 : Int32)))]) rfl kt_) ?_
   rw [show ((0 : Int32) + (1 : Int32)) = (1 : Int32) from by decide]
   refine own_by (T' := T8) (g' := (mkF m 2 #[.val (.ref x), .val (.int 0), .val (.int 1)] [])) (fun _ kt_ => XS.goto X8.here hx rfl (pc0 := 33) (pc' := 2) rfl (hb hby own_d6_33) (by decide) (by decide) kt_) ?_
   refine own_by (T' := T8) (g' := (mkF m 3 #[.val (.ref x), .val (.int 0), .val (.int 1)] [.int 1])) (fun _ kt_ => XS.iloadN X8.here hx rfl (hb hby own_d6_2) rfl kt_) ?_
   refine own_by (T' := T8) (g' := (mkF m 4 #[.val (.ref x), .val (.int 0), .val (.int 1)] [.ref x, .int 1])) (fun _ kt_ => XS.aloadN X8.here hx rfl (hb hby own_d6_3) rfl rfl kt_) ?_
   obtain ⟨cq13, kq13, q13a, q13b, q13c⟩ := isOf hZ e8 E_x
   obtain ⟨_, _, ⟨T13, L13, k13, n13⟩, -, X13, ⟨Lc13, hQ13, l13, y13, z13⟩, st13⟩ := X8.virtualBack hx (y := (⟨"java/lang/String", "length", "()I"⟩ : MethodName)) (z := (⟨"java/lang/String", "length", "()I"⟩ : MethodName)) hown (mvT hZ (ww hw 33 rfl)) (mvT hZ (ww hw 34 rfl)) (notFace_of_selects (args := #[]) (mvT hZ (ww hw 36 rfl))) (mvT hZ (ww hw 36 rfl)) (mvT hZ (ww hw 35 rfl)) (by decide) (backOf (W := 1) (rmLen_1 l Z a0 hw [] zC vF hvF GS x t kB c0 h0 n0 (by omega) O0 E_x Fv Fc Vt) hZ (ww hw 37 rfl) (ww hw 9 rfl) (by decide) (by decide)) q13a q13c (g := (mkF m 4 #[.val (.ref x), .val (.int 0), .val (.int 1)] [.ref x, .int 1])) rfl (by rw [hml]; rfl) (Steps.refl _) (argsL := []) (rest := [.int 1]) (lenOf own_pd_10 rfl) rfl (by show 2 * 0 + _ ≤ _; exact Nat.le_of_eq rfl) (hb hby own_d6_4) (fun _ _ => ⟨rfl, e8, (by decide : 0 + 0 ≤ _), (by decide : 0 + 0 ≤ _)⟩)
   dsimp only [Pt.U, Pt.locs, Pt.cells, Pt.slots] at X13 l13 y13 z13 st13 hQ13
   subst l13 y13 z13
   obtain ⟨rfl, N13q, e13⟩ := hQ13
   have N14 := Fr.app N9 N13q
   refine own_by (T' := T13) (g' := (mkF m 7 #[.val (.ref x), .val (.int 0), .val (.int 1)] [.int 1, .int 1])) (fun _ kt_ => st13.trans kt_) ?_
   refine own_by (T' := T13) (g' := (mkF m 36 #[.val (.ref x), .val (.int 0), .val (.int 1)] [])) (fun _ kt_ => XS.icmpYes X13.here hx rfl (pc0 := 7) (pc' := 36) rfl (hb hby own_d6_7) rfl (XT.ii_ge_t (by decide)) (by decide) (by decide) kt_) ?_
   refine own_by (T' := T13) (g' := (mkF m 37 #[.val (.ref x), .val (.int 0), .val (.int 1)] [.int 1])) (fun _ kt_ => XS.iloadN X13.here hx rfl (hb hby own_d6_36) rfl kt_) ?_
   refine own_by (T' := T13) (g' := (mkF m 38 #[.val (.ref x), .val (.int 0), .val (.int 1)] [.int 0, .int 1])) (fun _ kt_ => XS.iloadN X13.here hx rfl (hb hby own_d6_37) rfl kt_) ?_
   refine own_by (T' := T13) (g' := (mkF m 39 #[.val (.ref x), .val (.int 0), .val (.int 1)] [(.int ((1 : Int32) - (0 : Int32)))])) (fun _ kt_ => XS.isub X13.here hx rfl (hb hby own_d6_38) rfl kt_) ?_
   rw [show ((1 : Int32) - (0 : Int32)) = (1 : Int32) from by decide]
   have hr15 : (1 : Int32) = (if c0 < (48 : Int32) then (0 : Int32) else (if (57 : Int32) < c0 then (0 : Int32) else (1 : Int32))) := by simp [hc5, hc10]
   obtain ⟨fs16, hr16, hrun16, hended16, hW16, hsame16⟩ := X13.leave (v := some (.int 1)) (fun h => by rw [Bd.returns] at h; cases h)
   refine ⟨_, _, retOut X13 hx (t := .int) Bd.returns rfl (Or.inl ⟨rfl, Or.inl rfl, _, rfl⟩) (hb hby own_d6_39) hr16, hrun16, hended16, _, _, rfl, ?_, ⟨_, rfl⟩, hW16, hsame16.mono (by decide) (by decide)⟩
   show Q_rmD_1_0 Z zC vF hvF x t kB c0 h0 n0 _ T13.heap _
   exact ⟨(congrArg (fun z => some (Value.int z)) hr15), N14, e13⟩
theorem own_ef_rmD_2_1 (m : MethodId) (x0 : Addr) (x1 : Int32) : entryFrame m #[.ref x0, .int x1] 3 = mkF m 0 #[.val (.ref x0), .val (.int x1), .unset] [] := by first | (simp [entryFrame, mkF, argsToLocals, Value.category]; done) | rfl
def Q_rmD_2_1 (Z : State) (zC : Int32) (vF : Value) (hvF : vF.isRef = true) (x : Addr) (t : Addr) (kB : ClassId) (c0 : Int32) (c1 : Int32) (h0 : Heap) (n0 : Nat) (vv_ : Option Value) (hh_ : Heap) (LL_ : List Loc) : Prop := vv_ = some (.int (if c1 < (48 : Int32) then (0 : Int32) else (if (57 : Int32) < c1 then (0 : Int32) else (1 : Int32)))) ∧ Fr n0 LL_ ∧ hh_ = h0
set_option maxRecDepth 65536 in
set_option maxHeartbeats 40000000 in
theorem rmD_2_1 (l : Launch) (Z : State) (a0 : Array Value) (hw : ∀ d ∈ tables_1, d.before a0 Z = true) (ws : List Jvm.Cond) (zC : Int32) (vF : Value) (hvF : vF.isRef = true) (GS : Glob Z zC vF hvF) (x : Addr) (t : Addr) (kB : ClassId) (c0 : Int32) (c1 : Int32) (h0 : Heap) (n0 : Nat) (Z0 : n0 ≤ h0.size) (O0 : Old Z n0 h0) (E_x : Exa Z h0 x "java/lang/String") (Fv : Fld Z h0 x "java/lang/String" "value" "[B" (.ref t)) (Fc : Fld Z h0 x "java/lang/String" "coder" "B" (.int 0)) (Vt : Arv Z h0 t kB .byte (2 : Int32) [(.int c0.toInt8.toInt32), (.int c1.toInt8.toInt32)] (.int 0)) (ok0 : okF c0) (ok1 : okF c1) :
  MetFree l (⟨"com/example/vestledger/vestledger/journal/JournalDecimals", "digitsFrom", "(Ljava/lang/String;I)I"⟩ : MethodName) (head1 (Jvm.Cond.code (⟨"com/example/vestledger/vestledger/journal/JournalDecimals", "digitsFrom", "(Ljava/lang/String;I)I"⟩ : MethodName) prog_21_method_5_code 3 (some .int) :: ws) (⟨4, 0, 0, 53⟩ : Room)) (fun aa_ UU_ => aa_ = #[.ref x, .int 1] ∧ Z.Warmed39 UU_.vm ∧ UU_.heap = h0) (fun _ _ _ _ _ => True) (fun _ UU_ oo_ UV_ => ∃ vv_ LL_, oo_ = .returned vv_ ∧ Q_rmD_2_1 Z zC vF hvF x t kB c0 c1 h0 n0 vv_ UV_.heap LL_ ∧ FrameEnd UU_ oo_ UV_ LL_ (⟨4, 0, 0, 53⟩ : Room).cells (⟨4, 0, 0, 53⟩ : Room).slots) := by
 refine MetFree.of_bodySF (plainFor_of_name own_pn_com_example_vestledger_vestledger_journal_JournalDecimals) hisR ?_
 intro p e s m args below meth c s₁ Bd hml0 hP hK
 obtain ⟨rfl, hZ, hh⟩ := hP
 have hx := Bd.exec
 have hby := Bd.bytes
 have hml : c.maxLocals = 3 := hml0
 have hown : s.vm.findClass "com/example/vestledger/vestledger/journal/JournalDecimals" = some m.cls := findClass_of_methodNamed Bd.named
 have hnm := (name_of_methodNamed Bd.named Bd.method).1
 have X0 : Stand p l e (⟨4, 0, 0, 53⟩ : Room) s m #[.ref x, .int 1] below meth c s₁ [] 0 0 := Stand.of_body Bd
 have e0 : s₁.heap = h0 := by rw [← hh, Bd.state]; rfl
 have N0 := Fr.nil n0
 have hn0 : Z.heap.size = n0 := O0.1
 have KT0 : Keep h0 h0 [] := Keep.refl _ _
 refine own_enter (Φ := fun oo_ UV_ => ∃ vv_ LL_, oo_ = .returned vv_ ∧ Q_rmD_2_1 Z zC vF hvF x t kB c0 c1 h0 n0 vv_ UV_.heap LL_ ∧ FrameEnd s oo_ UV_ LL_ (⟨4, 0, 0, 53⟩ : Room).cells (⟨4, 0, 0, 53⟩ : Room).slots) (own_ef_rmD_2_1 m x (1 : Int32)) ?_
 refine own_by (T' := s₁) (g' := (mkF m 1 #[.val (.ref x), .val (.int 1), .unset] [.int 1])) (fun _ kt_ => XS.iloadN X0.here hx rfl (hb hby own_d6_0) rfl kt_) ?_
 refine own_by (T' := s₁) (g' := (mkF m 2 #[.val (.ref x), .val (.int 1), .val (.int 1)] [])) (fun _ kt_ => XS.istoreN X0.here hx rfl (hb hby own_d6_1) rfl (l' := #[.val (.ref x), .val (.int 1), .val (.int 1)]) rfl kt_) ?_
 refine own_by (T' := s₁) (g' := (mkF m 3 #[.val (.ref x), .val (.int 1), .val (.int 1)] [.int 1])) (fun _ kt_ => XS.iloadN X0.here hx rfl (hb hby own_d6_2) rfl kt_) ?_
 refine own_by (T' := s₁) (g' := (mkF m 4 #[.val (.ref x), .val (.int 1), .val (.int 1)] [.ref x, .int 1])) (fun _ kt_ => XS.aloadN X0.here hx rfl (hb hby own_d6_3) rfl rfl kt_) ?_
 obtain ⟨cq1, kq1, q1a, q1b, q1c⟩ := isOf hZ e0 E_x
 obtain ⟨_, _, ⟨T1, L1, k1, n1⟩, -, X1, ⟨Lc1, hQ1, l1, y1, z1⟩, st1⟩ := X0.virtualBack hx (y := (⟨"java/lang/String", "length", "()I"⟩ : MethodName)) (z := (⟨"java/lang/String", "length", "()I"⟩ : MethodName)) hown (mvT hZ (ww hw 33 rfl)) (mvT hZ (ww hw 34 rfl)) (notFace_of_selects (args := #[]) (mvT hZ (ww hw 36 rfl))) (mvT hZ (ww hw 36 rfl)) (mvT hZ (ww hw 35 rfl)) (by decide) (backOf (W := 1) (rmLen_2 l Z a0 hw [] zC vF hvF GS x t kB c0 c1 h0 n0 (by omega) O0 E_x Fv Fc Vt) hZ (ww hw 37 rfl) (ww hw 9 rfl) (by decide) (by decide)) q1a q1c (g := (mkF m 4 #[.val (.ref x), .val (.int 1), .val (.int 1)] [.ref x, .int 1])) rfl (by rw [hml]; rfl) (Steps.refl _) (argsL := []) (rest := [.int 1]) (lenOf own_pd_10 rfl) rfl (by show 2 * 0 + _ ≤ _; exact Nat.le_of_eq rfl) (hb hby own_d6_4) (fun _ _ => ⟨rfl, e0, (by decide : 0 + 0 ≤ _), (by decide : 0 + 0 ≤ _)⟩)
 dsimp only [Pt.U, Pt.locs, Pt.cells, Pt.slots] at X1 l1 y1 z1 st1 hQ1
 subst l1 y1 z1
 obtain ⟨rfl, N1q, e1⟩ := hQ1
 have N2 := Fr.app N0 N1q
 refine own_by (T' := T1) (g' := (mkF m 7 #[.val (.ref x), .val (.int 1), .val (.int 1)] [.int 2, .int 1])) (fun _ kt_ => st1.trans kt_) ?_
 refine own_by (T' := T1) (g' := (mkF m 10 #[.val (.ref x), .val (.int 1), .val (.int 1)] [])) (fun _ kt_ => XS.icmpNo X1.here hx rfl (hb hby own_d6_7) rfl (XT.ii_ge_f (by decide)) kt_) ?_
 refine own_by (T' := T1) (g' := (mkF m 11 #[.val (.ref x), .val (.int 1), .val (.int 1)] [.ref x])) (fun _ kt_ => XS.aloadN X1.here hx rfl (hb hby own_d6_10) rfl rfl kt_) ?_
 refine own_by (T' := T1) (g' := (mkF m 12 #[.val (.ref x), .val (.int 1), .val (.int 1)] [.int 1, .ref x])) (fun _ kt_ => XS.iloadN X1.here hx rfl (hb hby own_d6_11) rfl kt_) ?_
 obtain ⟨cq3, kq3, q3a, q3b, q3c⟩ := isOf hZ e1 E_x
 obtain ⟨_, _, ⟨T3, L3, k3, n3⟩, -, X3, ⟨Lc3, hQ3, l3, y3, z3⟩, st3⟩ := X1.virtualBack hx (y := (⟨"java/lang/String", "charAt", "(I)C"⟩ : MethodName)) (z := (⟨"java/lang/String", "charAt", "(I)C"⟩ : MethodName)) hown (mvT hZ (ww hw 57 rfl)) (mvT hZ (ww hw 58 rfl)) (notFace_of_selects (args := #[]) (mvT hZ (ww hw 60 rfl))) (mvT hZ (ww hw 60 rfl)) (mvT hZ (ww hw 59 rfl)) (by decide) (backOf (W := 0) (rmChr_2_1 l Z a0 hw [] zC vF hvF GS x t kB c0 c1 h0 n0 (by omega) O0 E_x Fv Fc Vt ok1) hZ (ww hw 61 rfl) (ww hw 9 rfl) (by decide) (by decide)) q3a q3c (g := (mkF m 12 #[.val (.ref x), .val (.int 1), .val (.int 1)] [.int 1, .ref x])) rfl (by rw [hml]; rfl) (Steps.refl _) (argsL := [.int 1]) (rest := []) (lenOf own_pd_11 rfl) rfl (by show 2 * 0 + _ ≤ _; exact Nat.le_of_eq rfl) (hb hby own_d6_12) (fun _ _ => ⟨rfl, e1, (by decide : 0 + 0 ≤ _), (by decide : 0 + 0 ≤ _)⟩)
 dsimp only [Pt.U, Pt.locs, Pt.cells, Pt.slots] at X3 l3 y3 z3 st3 hQ3
 subst l3 y3 z3
 obtain ⟨rfl, N3q, e3⟩ := hQ3
 have N4 := Fr.app N2 N3q
 refine own_by (T' := T3) (g' := (mkF m 15 #[.val (.ref x), .val (.int 1), .val (.int 1)] [.int c1])) (fun _ kt_ => st3.trans kt_) ?_
 refine own_by (T' := T3) (g' := (mkF m 17 #[.val (.ref x), .val (.int 1), .val (.int 1)] [.int 48, .int c1])) (fun _ kt_ => XS.bipush X3.here hx rfl (hb hby own_d6_15) kt_) ?_
 by_cases hc5 : c1 < (48 : Int32)
 ·refine own_by (T' := T3) (g' := (mkF m 36 #[.val (.ref x), .val (.int 1), .val (.int 1)] [])) (fun _ kt_ => XS.icmpYes X3.here hx rfl (pc0 := 17) (pc' := 36) rfl (hb hby own_d6_17) rfl (XT.ii_lt_t hc5) (by decide) (by decide) kt_) ?_
  refine own_by (T' := T3) (g' := (mkF m 37 #[.val (.ref x), .val (.int 1), .val (.int 1)] [.int 1])) (fun _ kt_ => XS.iloadN X3.here hx rfl (hb hby own_d6_36) rfl kt_) ?_
  refine own_by (T' := T3) (g' := (mkF m 38 #[.val (.ref x), .val (.int 1), .val (.int 1)] [.int 1, .int 1])) (fun _ kt_ => XS.iloadN X3.here hx rfl (hb hby own_d6_37) rfl kt_) ?_
  refine own_by (T' := T3) (g' := (mkF m 39 #[.val (.ref x), .val (.int 1), .val (.int 1)] [(.int ((1 : Int32) - (1 : Int32)))])) (fun _ kt_ => XS.isub X3.here hx rfl (hb hby own_d6_38) rfl kt_) ?_
  rw [show ((1 : Int32) - (1 : Int32)) = (0 : Int32) from by decide]
  have hr6 : (0 : Int32) = (if c1 < (48 : Int32) then (0 : Int32) else (if (57 : Int32) < c1 then (0 : Int32) else (1 : Int32))) := by simp [hc5]
  obtain ⟨fs7, hr7, hrun7, hended7, hW7, hsame7⟩ := X3.leave (v := some (.int 0)) (fun h => by rw [Bd.returns] at h; cases h)
  refine ⟨_, _, retOut X3 hx (t := .int) Bd.returns rfl (Or.inl ⟨rfl, Or.inl rfl, _, rfl⟩) (hb hby own_d6_39) hr7, hrun7, hended7, _, _, rfl, ?_, ⟨_, rfl⟩, hW7, hsame7.mono (by decide) (by decide)⟩
  show Q_rmD_2_1 Z zC vF hvF x t kB c0 c1 h0 n0 _ T3.heap _
  exact ⟨(congrArg (fun z => some (Value.int z)) hr6), N4, e3⟩
 ·refine own_by (T' := T3) (g' := (mkF m 20 #[.val (.ref x), .val (.int 1), .val (.int 1)] [])) (fun _ kt_ => XS.icmpNo X3.here hx rfl (hb hby own_d6_17) rfl (XT.ii_lt_f hc5) kt_) ?_
  refine own_by (T' := T3) (g' := (mkF m 21 #[.val (.ref x), .val (.int 1), .val (.int 1)] [.ref x])) (fun _ kt_ => XS.aloadN X3.here hx rfl (hb hby own_d6_20) rfl rfl kt_) ?_
  refine own_by (T' := T3) (g' := (mkF m 22 #[.val (.ref x), .val (.int 1), .val (.int 1)] [.int 1, .ref x])) (fun _ kt_ => XS.iloadN X3.here hx rfl (hb hby own_d6_21) rfl kt_) ?_
  obtain ⟨cq8, kq8, q8a, q8b, q8c⟩ := isOf hZ e3 E_x
  obtain ⟨_, _, ⟨T8, L8, k8, n8⟩, -, X8, ⟨Lc8, hQ8, l8, y8, z8⟩, st8⟩ := X3.virtualBack hx (y := (⟨"java/lang/String", "charAt", "(I)C"⟩ : MethodName)) (z := (⟨"java/lang/String", "charAt", "(I)C"⟩ : MethodName)) hown (mvT hZ (ww hw 57 rfl)) (mvT hZ (ww hw 58 rfl)) (notFace_of_selects (args := #[]) (mvT hZ (ww hw 60 rfl))) (mvT hZ (ww hw 60 rfl)) (mvT hZ (ww hw 59 rfl)) (by decide) (backOf (W := 0) (rmChr_2_1 l Z a0 hw [] zC vF hvF GS x t kB c0 c1 h0 n0 (by omega) O0 E_x Fv Fc Vt ok1) hZ (ww hw 61 rfl) (ww hw 9 rfl) (by decide) (by decide)) q8a q8c (g := (mkF m 22 #[.val (.ref x), .val (.int 1), .val (.int 1)] [.int 1, .ref x])) rfl (by rw [hml]; rfl) (Steps.refl _) (argsL := [.int 1]) (rest := []) (lenOf own_pd_11 rfl) rfl (by show 2 * 0 + _ ≤ _; exact Nat.le_of_eq rfl) (hb hby own_d6_22) (fun _ _ => ⟨rfl, e3, (by decide : 0 + 0 ≤ _), (by decide : 0 + 0 ≤ _)⟩)
  dsimp only [Pt.U, Pt.locs, Pt.cells, Pt.slots] at X8 l8 y8 z8 st8 hQ8
  subst l8 y8 z8
  obtain ⟨rfl, N8q, e8⟩ := hQ8
  have N9 := Fr.app N4 N8q
  refine own_by (T' := T8) (g' := (mkF m 25 #[.val (.ref x), .val (.int 1), .val (.int 1)] [.int c1])) (fun _ kt_ => st8.trans kt_) ?_
  refine own_by (T' := T8) (g' := (mkF m 27 #[.val (.ref x), .val (.int 1), .val (.int 1)] [.int 57, .int c1])) (fun _ kt_ => XS.bipush X8.here hx rfl (hb hby own_d6_25) kt_) ?_
  by_cases hc10 : (57 : Int32) < c1
  ·refine own_by (T' := T8) (g' := (mkF m 36 #[.val (.ref x), .val (.int 1), .val (.int 1)] [])) (fun _ kt_ => XS.icmpYes X8.here hx rfl (pc0 := 27) (pc' := 36) rfl (hb hby own_d6_27) rfl (XT.ii_gt_t hc10) (by decide) (by decide) kt_) ?_
   refine own_by (T' := T8) (g' := (mkF m 37 #[.val (.ref x), .val (.int 1), .val (.int 1)] [.int 1])) (fun _ kt_ => XS.iloadN X8.here hx rfl (hb hby own_d6_36) rfl kt_) ?_
   refine own_by (T' := T8) (g' := (mkF m 38 #[.val (.ref x), .val (.int 1), .val (.int 1)] [.int 1, .int 1])) (fun _ kt_ => XS.iloadN X8.here hx rfl (hb hby own_d6_37) rfl kt_) ?_
   refine own_by (T' := T8) (g' := (mkF m 39 #[.val (.ref x), .val (.int 1), .val (.int 1)] [(.int ((1 : Int32) - (1 : Int32)))])) (fun _ kt_ => XS.isub X8.here hx rfl (hb hby own_d6_38) rfl kt_) ?_
   rw [show ((1 : Int32) - (1 : Int32)) = (0 : Int32) from by decide]
   have hr11 : (0 : Int32) = (if c1 < (48 : Int32) then (0 : Int32) else (if (57 : Int32) < c1 then (0 : Int32) else (1 : Int32))) := by simp [hc5, hc10]
   obtain ⟨fs12, hr12, hrun12, hended12, hW12, hsame12⟩ := X8.leave (v := some (.int 0)) (fun h => by rw [Bd.returns] at h; cases h)
   refine ⟨_, _, retOut X8 hx (t := .int) Bd.returns rfl (Or.inl ⟨rfl, Or.inl rfl, _, rfl⟩) (hb hby own_d6_39) hr12, hrun12, hended12, _, _, rfl, ?_, ⟨_, rfl⟩, hW12, hsame12.mono (by decide) (by decide)⟩
   show Q_rmD_2_1 Z zC vF hvF x t kB c0 c1 h0 n0 _ T8.heap _
   exact ⟨(congrArg (fun z => some (Value.int z)) hr11), N9, e8⟩
  ·refine own_by (T' := T8) (g' := (mkF m 30 #[.val (.ref x), .val (.int 1), .val (.int 1)] [])) (fun _ kt_ => XS.icmpNo X8.here hx rfl (hb hby own_d6_27) rfl (XT.ii_gt_f hc10) kt_) ?_
   refine own_by (T' := T8) (g' := (mkF m 33 #[.val (.ref x), .val (.int 1), .val (.int ((1 : Int32) + (1 : Int32)))] [])) (fun _ kt_ => XS.iinc X8.here hx rfl (hb hby own_d6_30) rfl (l' := #[.val (.ref x), .val (.int 1), .val (.int ((1 : Int32) + (1 : Int32)))]) rfl kt_) ?_
   rw [show ((1 : Int32) + (1 : Int32)) = (2 : Int32) from by decide]
   refine own_by (T' := T8) (g' := (mkF m 2 #[.val (.ref x), .val (.int 1), .val (.int 2)] [])) (fun _ kt_ => XS.goto X8.here hx rfl (pc0 := 33) (pc' := 2) rfl (hb hby own_d6_33) (by decide) (by decide) kt_) ?_
   refine own_by (T' := T8) (g' := (mkF m 3 #[.val (.ref x), .val (.int 1), .val (.int 2)] [.int 2])) (fun _ kt_ => XS.iloadN X8.here hx rfl (hb hby own_d6_2) rfl kt_) ?_
   refine own_by (T' := T8) (g' := (mkF m 4 #[.val (.ref x), .val (.int 1), .val (.int 2)] [.ref x, .int 2])) (fun _ kt_ => XS.aloadN X8.here hx rfl (hb hby own_d6_3) rfl rfl kt_) ?_
   obtain ⟨cq13, kq13, q13a, q13b, q13c⟩ := isOf hZ e8 E_x
   obtain ⟨_, _, ⟨T13, L13, k13, n13⟩, -, X13, ⟨Lc13, hQ13, l13, y13, z13⟩, st13⟩ := X8.virtualBack hx (y := (⟨"java/lang/String", "length", "()I"⟩ : MethodName)) (z := (⟨"java/lang/String", "length", "()I"⟩ : MethodName)) hown (mvT hZ (ww hw 33 rfl)) (mvT hZ (ww hw 34 rfl)) (notFace_of_selects (args := #[]) (mvT hZ (ww hw 36 rfl))) (mvT hZ (ww hw 36 rfl)) (mvT hZ (ww hw 35 rfl)) (by decide) (backOf (W := 1) (rmLen_2 l Z a0 hw [] zC vF hvF GS x t kB c0 c1 h0 n0 (by omega) O0 E_x Fv Fc Vt) hZ (ww hw 37 rfl) (ww hw 9 rfl) (by decide) (by decide)) q13a q13c (g := (mkF m 4 #[.val (.ref x), .val (.int 1), .val (.int 2)] [.ref x, .int 2])) rfl (by rw [hml]; rfl) (Steps.refl _) (argsL := []) (rest := [.int 2]) (lenOf own_pd_10 rfl) rfl (by show 2 * 0 + _ ≤ _; exact Nat.le_of_eq rfl) (hb hby own_d6_4) (fun _ _ => ⟨rfl, e8, (by decide : 0 + 0 ≤ _), (by decide : 0 + 0 ≤ _)⟩)
   dsimp only [Pt.U, Pt.locs, Pt.cells, Pt.slots] at X13 l13 y13 z13 st13 hQ13
   subst l13 y13 z13
   obtain ⟨rfl, N13q, e13⟩ := hQ13
   have N14 := Fr.app N9 N13q
   refine own_by (T' := T13) (g' := (mkF m 7 #[.val (.ref x), .val (.int 1), .val (.int 2)] [.int 2, .int 2])) (fun _ kt_ => st13.trans kt_) ?_
   refine own_by (T' := T13) (g' := (mkF m 36 #[.val (.ref x), .val (.int 1), .val (.int 2)] [])) (fun _ kt_ => XS.icmpYes X13.here hx rfl (pc0 := 7) (pc' := 36) rfl (hb hby own_d6_7) rfl (XT.ii_ge_t (by decide)) (by decide) (by decide) kt_) ?_
   refine own_by (T' := T13) (g' := (mkF m 37 #[.val (.ref x), .val (.int 1), .val (.int 2)] [.int 2])) (fun _ kt_ => XS.iloadN X13.here hx rfl (hb hby own_d6_36) rfl kt_) ?_
   refine own_by (T' := T13) (g' := (mkF m 38 #[.val (.ref x), .val (.int 1), .val (.int 2)] [.int 1, .int 2])) (fun _ kt_ => XS.iloadN X13.here hx rfl (hb hby own_d6_37) rfl kt_) ?_
   refine own_by (T' := T13) (g' := (mkF m 39 #[.val (.ref x), .val (.int 1), .val (.int 2)] [(.int ((2 : Int32) - (1 : Int32)))])) (fun _ kt_ => XS.isub X13.here hx rfl (hb hby own_d6_38) rfl kt_) ?_
   rw [show ((2 : Int32) - (1 : Int32)) = (1 : Int32) from by decide]
   have hr15 : (1 : Int32) = (if c1 < (48 : Int32) then (0 : Int32) else (if (57 : Int32) < c1 then (0 : Int32) else (1 : Int32))) := by simp [hc5, hc10]
   obtain ⟨fs16, hr16, hrun16, hended16, hW16, hsame16⟩ := X13.leave (v := some (.int 1)) (fun h => by rw [Bd.returns] at h; cases h)
   refine ⟨_, _, retOut X13 hx (t := .int) Bd.returns rfl (Or.inl ⟨rfl, Or.inl rfl, _, rfl⟩) (hb hby own_d6_39) hr16, hrun16, hended16, _, _, rfl, ?_, ⟨_, rfl⟩, hW16, hsame16.mono (by decide) (by decide)⟩
   show Q_rmD_2_1 Z zC vF hvF x t kB c0 c1 h0 n0 _ T13.heap _
   exact ⟨(congrArg (fun z => some (Value.int z)) hr15), N14, e13⟩
theorem own_ef_rmD_3_2 (m : MethodId) (x0 : Addr) (x1 : Int32) : entryFrame m #[.ref x0, .int x1] 3 = mkF m 0 #[.val (.ref x0), .val (.int x1), .unset] [] := by first | (simp [entryFrame, mkF, argsToLocals, Value.category]; done) | rfl
def Q_rmD_3_2 (Z : State) (zC : Int32) (vF : Value) (hvF : vF.isRef = true) (x : Addr) (t : Addr) (kB : ClassId) (c0 : Int32) (c1 : Int32) (c2 : Int32) (h0 : Heap) (n0 : Nat) (vv_ : Option Value) (hh_ : Heap) (LL_ : List Loc) : Prop := vv_ = some (.int (if c2 < (48 : Int32) then (0 : Int32) else (if (57 : Int32) < c2 then (0 : Int32) else (1 : Int32)))) ∧ Fr n0 LL_ ∧ hh_ = h0
set_option maxRecDepth 65536 in
set_option maxHeartbeats 40000000 in
theorem rmD_3_2 (l : Launch) (Z : State) (a0 : Array Value) (hw : ∀ d ∈ tables_1, d.before a0 Z = true) (ws : List Jvm.Cond) (zC : Int32) (vF : Value) (hvF : vF.isRef = true) (GS : Glob Z zC vF hvF) (x : Addr) (t : Addr) (kB : ClassId) (c0 : Int32) (c1 : Int32) (c2 : Int32) (h0 : Heap) (n0 : Nat) (Z0 : n0 ≤ h0.size) (O0 : Old Z n0 h0) (E_x : Exa Z h0 x "java/lang/String") (Fv : Fld Z h0 x "java/lang/String" "value" "[B" (.ref t)) (Fc : Fld Z h0 x "java/lang/String" "coder" "B" (.int 0)) (Vt : Arv Z h0 t kB .byte (3 : Int32) [(.int c0.toInt8.toInt32), (.int c1.toInt8.toInt32), (.int c2.toInt8.toInt32)] (.int 0)) (ok0 : okF c0) (ok1 : okF c1) (ok2 : okF c2) :
  MetFree l (⟨"com/example/vestledger/vestledger/journal/JournalDecimals", "digitsFrom", "(Ljava/lang/String;I)I"⟩ : MethodName) (head1 (Jvm.Cond.code (⟨"com/example/vestledger/vestledger/journal/JournalDecimals", "digitsFrom", "(Ljava/lang/String;I)I"⟩ : MethodName) prog_21_method_5_code 3 (some .int) :: ws) (⟨4, 0, 0, 53⟩ : Room)) (fun aa_ UU_ => aa_ = #[.ref x, .int 2] ∧ Z.Warmed39 UU_.vm ∧ UU_.heap = h0) (fun _ _ _ _ _ => True) (fun _ UU_ oo_ UV_ => ∃ vv_ LL_, oo_ = .returned vv_ ∧ Q_rmD_3_2 Z zC vF hvF x t kB c0 c1 c2 h0 n0 vv_ UV_.heap LL_ ∧ FrameEnd UU_ oo_ UV_ LL_ (⟨4, 0, 0, 53⟩ : Room).cells (⟨4, 0, 0, 53⟩ : Room).slots) := by
 refine MetFree.of_bodySF (plainFor_of_name own_pn_com_example_vestledger_vestledger_journal_JournalDecimals) hisR ?_
 intro p e s m args below meth c s₁ Bd hml0 hP hK
 obtain ⟨rfl, hZ, hh⟩ := hP
 have hx := Bd.exec
 have hby := Bd.bytes
 have hml : c.maxLocals = 3 := hml0
 have hown : s.vm.findClass "com/example/vestledger/vestledger/journal/JournalDecimals" = some m.cls := findClass_of_methodNamed Bd.named
 have hnm := (name_of_methodNamed Bd.named Bd.method).1
 have X0 : Stand p l e (⟨4, 0, 0, 53⟩ : Room) s m #[.ref x, .int 2] below meth c s₁ [] 0 0 := Stand.of_body Bd
 have e0 : s₁.heap = h0 := by rw [← hh, Bd.state]; rfl
 have N0 := Fr.nil n0
 have hn0 : Z.heap.size = n0 := O0.1
 have KT0 : Keep h0 h0 [] := Keep.refl _ _
 refine own_enter (Φ := fun oo_ UV_ => ∃ vv_ LL_, oo_ = .returned vv_ ∧ Q_rmD_3_2 Z zC vF hvF x t kB c0 c1 c2 h0 n0 vv_ UV_.heap LL_ ∧ FrameEnd s oo_ UV_ LL_ (⟨4, 0, 0, 53⟩ : Room).cells (⟨4, 0, 0, 53⟩ : Room).slots) (own_ef_rmD_3_2 m x (2 : Int32)) ?_
 refine own_by (T' := s₁) (g' := (mkF m 1 #[.val (.ref x), .val (.int 2), .unset] [.int 2])) (fun _ kt_ => XS.iloadN X0.here hx rfl (hb hby own_d6_0) rfl kt_) ?_
 refine own_by (T' := s₁) (g' := (mkF m 2 #[.val (.ref x), .val (.int 2), .val (.int 2)] [])) (fun _ kt_ => XS.istoreN X0.here hx rfl (hb hby own_d6_1) rfl (l' := #[.val (.ref x), .val (.int 2), .val (.int 2)]) rfl kt_) ?_
 refine own_by (T' := s₁) (g' := (mkF m 3 #[.val (.ref x), .val (.int 2), .val (.int 2)] [.int 2])) (fun _ kt_ => XS.iloadN X0.here hx rfl (hb hby own_d6_2) rfl kt_) ?_
 refine own_by (T' := s₁) (g' := (mkF m 4 #[.val (.ref x), .val (.int 2), .val (.int 2)] [.ref x, .int 2])) (fun _ kt_ => XS.aloadN X0.here hx rfl (hb hby own_d6_3) rfl rfl kt_) ?_
 obtain ⟨cq1, kq1, q1a, q1b, q1c⟩ := isOf hZ e0 E_x
 obtain ⟨_, _, ⟨T1, L1, k1, n1⟩, -, X1, ⟨Lc1, hQ1, l1, y1, z1⟩, st1⟩ := X0.virtualBack hx (y := (⟨"java/lang/String", "length", "()I"⟩ : MethodName)) (z := (⟨"java/lang/String", "length", "()I"⟩ : MethodName)) hown (mvT hZ (ww hw 33 rfl)) (mvT hZ (ww hw 34 rfl)) (notFace_of_selects (args := #[]) (mvT hZ (ww hw 36 rfl))) (mvT hZ (ww hw 36 rfl)) (mvT hZ (ww hw 35 rfl)) (by decide) (backOf (W := 1) (rmLen_3 l Z a0 hw [] zC vF hvF GS x t kB c0 c1 c2 h0 n0 (by omega) O0 E_x Fv Fc Vt) hZ (ww hw 37 rfl) (ww hw 9 rfl) (by decide) (by decide)) q1a q1c (g := (mkF m 4 #[.val (.ref x), .val (.int 2), .val (.int 2)] [.ref x, .int 2])) rfl (by rw [hml]; rfl) (Steps.refl _) (argsL := []) (rest := [.int 2]) (lenOf own_pd_10 rfl) rfl (by show 2 * 0 + _ ≤ _; exact Nat.le_of_eq rfl) (hb hby own_d6_4) (fun _ _ => ⟨rfl, e0, (by decide : 0 + 0 ≤ _), (by decide : 0 + 0 ≤ _)⟩)
 dsimp only [Pt.U, Pt.locs, Pt.cells, Pt.slots] at X1 l1 y1 z1 st1 hQ1
 subst l1 y1 z1
 obtain ⟨rfl, N1q, e1⟩ := hQ1
 have N2 := Fr.app N0 N1q
 refine own_by (T' := T1) (g' := (mkF m 7 #[.val (.ref x), .val (.int 2), .val (.int 2)] [.int 3, .int 2])) (fun _ kt_ => st1.trans kt_) ?_
 refine own_by (T' := T1) (g' := (mkF m 10 #[.val (.ref x), .val (.int 2), .val (.int 2)] [])) (fun _ kt_ => XS.icmpNo X1.here hx rfl (hb hby own_d6_7) rfl (XT.ii_ge_f (by decide)) kt_) ?_
 refine own_by (T' := T1) (g' := (mkF m 11 #[.val (.ref x), .val (.int 2), .val (.int 2)] [.ref x])) (fun _ kt_ => XS.aloadN X1.here hx rfl (hb hby own_d6_10) rfl rfl kt_) ?_
 refine own_by (T' := T1) (g' := (mkF m 12 #[.val (.ref x), .val (.int 2), .val (.int 2)] [.int 2, .ref x])) (fun _ kt_ => XS.iloadN X1.here hx rfl (hb hby own_d6_11) rfl kt_) ?_
 obtain ⟨cq3, kq3, q3a, q3b, q3c⟩ := isOf hZ e1 E_x
 obtain ⟨_, _, ⟨T3, L3, k3, n3⟩, -, X3, ⟨Lc3, hQ3, l3, y3, z3⟩, st3⟩ := X1.virtualBack hx (y := (⟨"java/lang/String", "charAt", "(I)C"⟩ : MethodName)) (z := (⟨"java/lang/String", "charAt", "(I)C"⟩ : MethodName)) hown (mvT hZ (ww hw 57 rfl)) (mvT hZ (ww hw 58 rfl)) (notFace_of_selects (args := #[]) (mvT hZ (ww hw 60 rfl))) (mvT hZ (ww hw 60 rfl)) (mvT hZ (ww hw 59 rfl)) (by decide) (backOf (W := 0) (rmChr_3_2 l Z a0 hw [] zC vF hvF GS x t kB c0 c1 c2 h0 n0 (by omega) O0 E_x Fv Fc Vt ok2) hZ (ww hw 61 rfl) (ww hw 9 rfl) (by decide) (by decide)) q3a q3c (g := (mkF m 12 #[.val (.ref x), .val (.int 2), .val (.int 2)] [.int 2, .ref x])) rfl (by rw [hml]; rfl) (Steps.refl _) (argsL := [.int 2]) (rest := []) (lenOf own_pd_11 rfl) rfl (by show 2 * 0 + _ ≤ _; exact Nat.le_of_eq rfl) (hb hby own_d6_12) (fun _ _ => ⟨rfl, e1, (by decide : 0 + 0 ≤ _), (by decide : 0 + 0 ≤ _)⟩)
 dsimp only [Pt.U, Pt.locs, Pt.cells, Pt.slots] at X3 l3 y3 z3 st3 hQ3
 subst l3 y3 z3
 obtain ⟨rfl, N3q, e3⟩ := hQ3
 have N4 := Fr.app N2 N3q
 refine own_by (T' := T3) (g' := (mkF m 15 #[.val (.ref x), .val (.int 2), .val (.int 2)] [.int c2])) (fun _ kt_ => st3.trans kt_) ?_
 refine own_by (T' := T3) (g' := (mkF m 17 #[.val (.ref x), .val (.int 2), .val (.int 2)] [.int 48, .int c2])) (fun _ kt_ => XS.bipush X3.here hx rfl (hb hby own_d6_15) kt_) ?_
 by_cases hc5 : c2 < (48 : Int32)
 ·refine own_by (T' := T3) (g' := (mkF m 36 #[.val (.ref x), .val (.int 2), .val (.int 2)] [])) (fun _ kt_ => XS.icmpYes X3.here hx rfl (pc0 := 17) (pc' := 36) rfl (hb hby own_d6_17) rfl (XT.ii_lt_t hc5) (by decide) (by decide) kt_) ?_
  refine own_by (T' := T3) (g' := (mkF m 37 #[.val (.ref x), .val (.int 2), .val (.int 2)] [.int 2])) (fun _ kt_ => XS.iloadN X3.here hx rfl (hb hby own_d6_36) rfl kt_) ?_
  refine own_by (T' := T3) (g' := (mkF m 38 #[.val (.ref x), .val (.int 2), .val (.int 2)] [.int 2, .int 2])) (fun _ kt_ => XS.iloadN X3.here hx rfl (hb hby own_d6_37) rfl kt_) ?_
  refine own_by (T' := T3) (g' := (mkF m 39 #[.val (.ref x), .val (.int 2), .val (.int 2)] [(.int ((2 : Int32) - (2 : Int32)))])) (fun _ kt_ => XS.isub X3.here hx rfl (hb hby own_d6_38) rfl kt_) ?_
  rw [show ((2 : Int32) - (2 : Int32)) = (0 : Int32) from by decide]
  have hr6 : (0 : Int32) = (if c2 < (48 : Int32) then (0 : Int32) else (if (57 : Int32) < c2 then (0 : Int32) else (1 : Int32))) := by simp [hc5]
  obtain ⟨fs7, hr7, hrun7, hended7, hW7, hsame7⟩ := X3.leave (v := some (.int 0)) (fun h => by rw [Bd.returns] at h; cases h)
  refine ⟨_, _, retOut X3 hx (t := .int) Bd.returns rfl (Or.inl ⟨rfl, Or.inl rfl, _, rfl⟩) (hb hby own_d6_39) hr7, hrun7, hended7, _, _, rfl, ?_, ⟨_, rfl⟩, hW7, hsame7.mono (by decide) (by decide)⟩
  show Q_rmD_3_2 Z zC vF hvF x t kB c0 c1 c2 h0 n0 _ T3.heap _
  exact ⟨(congrArg (fun z => some (Value.int z)) hr6), N4, e3⟩
 ·refine own_by (T' := T3) (g' := (mkF m 20 #[.val (.ref x), .val (.int 2), .val (.int 2)] [])) (fun _ kt_ => XS.icmpNo X3.here hx rfl (hb hby own_d6_17) rfl (XT.ii_lt_f hc5) kt_) ?_
  refine own_by (T' := T3) (g' := (mkF m 21 #[.val (.ref x), .val (.int 2), .val (.int 2)] [.ref x])) (fun _ kt_ => XS.aloadN X3.here hx rfl (hb hby own_d6_20) rfl rfl kt_) ?_
  refine own_by (T' := T3) (g' := (mkF m 22 #[.val (.ref x), .val (.int 2), .val (.int 2)] [.int 2, .ref x])) (fun _ kt_ => XS.iloadN X3.here hx rfl (hb hby own_d6_21) rfl kt_) ?_
  obtain ⟨cq8, kq8, q8a, q8b, q8c⟩ := isOf hZ e3 E_x
  obtain ⟨_, _, ⟨T8, L8, k8, n8⟩, -, X8, ⟨Lc8, hQ8, l8, y8, z8⟩, st8⟩ := X3.virtualBack hx (y := (⟨"java/lang/String", "charAt", "(I)C"⟩ : MethodName)) (z := (⟨"java/lang/String", "charAt", "(I)C"⟩ : MethodName)) hown (mvT hZ (ww hw 57 rfl)) (mvT hZ (ww hw 58 rfl)) (notFace_of_selects (args := #[]) (mvT hZ (ww hw 60 rfl))) (mvT hZ (ww hw 60 rfl)) (mvT hZ (ww hw 59 rfl)) (by decide) (backOf (W := 0) (rmChr_3_2 l Z a0 hw [] zC vF hvF GS x t kB c0 c1 c2 h0 n0 (by omega) O0 E_x Fv Fc Vt ok2) hZ (ww hw 61 rfl) (ww hw 9 rfl) (by decide) (by decide)) q8a q8c (g := (mkF m 22 #[.val (.ref x), .val (.int 2), .val (.int 2)] [.int 2, .ref x])) rfl (by rw [hml]; rfl) (Steps.refl _) (argsL := [.int 2]) (rest := []) (lenOf own_pd_11 rfl) rfl (by show 2 * 0 + _ ≤ _; exact Nat.le_of_eq rfl) (hb hby own_d6_22) (fun _ _ => ⟨rfl, e3, (by decide : 0 + 0 ≤ _), (by decide : 0 + 0 ≤ _)⟩)
  dsimp only [Pt.U, Pt.locs, Pt.cells, Pt.slots] at X8 l8 y8 z8 st8 hQ8
  subst l8 y8 z8
  obtain ⟨rfl, N8q, e8⟩ := hQ8
  have N9 := Fr.app N4 N8q
  refine own_by (T' := T8) (g' := (mkF m 25 #[.val (.ref x), .val (.int 2), .val (.int 2)] [.int c2])) (fun _ kt_ => st8.trans kt_) ?_
  refine own_by (T' := T8) (g' := (mkF m 27 #[.val (.ref x), .val (.int 2), .val (.int 2)] [.int 57, .int c2])) (fun _ kt_ => XS.bipush X8.here hx rfl (hb hby own_d6_25) kt_) ?_
  by_cases hc10 : (57 : Int32) < c2
  ·refine own_by (T' := T8) (g' := (mkF m 36 #[.val (.ref x), .val (.int 2), .val (.int 2)] [])) (fun _ kt_ => XS.icmpYes X8.here hx rfl (pc0 := 27) (pc' := 36) rfl (hb hby own_d6_27) rfl (XT.ii_gt_t hc10) (by decide) (by decide) kt_) ?_
   refine own_by (T' := T8) (g' := (mkF m 37 #[.val (.ref x), .val (.int 2), .val (.int 2)] [.int 2])) (fun _ kt_ => XS.iloadN X8.here hx rfl (hb hby own_d6_36) rfl kt_) ?_
   refine own_by (T' := T8) (g' := (mkF m 38 #[.val (.ref x), .val (.int 2), .val (.int 2)] [.int 2, .int 2])) (fun _ kt_ => XS.iloadN X8.here hx rfl (hb hby own_d6_37) rfl kt_) ?_
   refine own_by (T' := T8) (g' := (mkF m 39 #[.val (.ref x), .val (.int 2), .val (.int 2)] [(.int ((2 : Int32) - (2 : Int32)))])) (fun _ kt_ => XS.isub X8.here hx rfl (hb hby own_d6_38) rfl kt_) ?_
   rw [show ((2 : Int32) - (2 : Int32)) = (0 : Int32) from by decide]
   have hr11 : (0 : Int32) = (if c2 < (48 : Int32) then (0 : Int32) else (if (57 : Int32) < c2 then (0 : Int32) else (1 : Int32))) := by simp [hc5, hc10]
   obtain ⟨fs12, hr12, hrun12, hended12, hW12, hsame12⟩ := X8.leave (v := some (.int 0)) (fun h => by rw [Bd.returns] at h; cases h)
   refine ⟨_, _, retOut X8 hx (t := .int) Bd.returns rfl (Or.inl ⟨rfl, Or.inl rfl, _, rfl⟩) (hb hby own_d6_39) hr12, hrun12, hended12, _, _, rfl, ?_, ⟨_, rfl⟩, hW12, hsame12.mono (by decide) (by decide)⟩
   show Q_rmD_3_2 Z zC vF hvF x t kB c0 c1 c2 h0 n0 _ T8.heap _
   exact ⟨(congrArg (fun z => some (Value.int z)) hr11), N9, e8⟩
  ·refine own_by (T' := T8) (g' := (mkF m 30 #[.val (.ref x), .val (.int 2), .val (.int 2)] [])) (fun _ kt_ => XS.icmpNo X8.here hx rfl (hb hby own_d6_27) rfl (XT.ii_gt_f hc10) kt_) ?_
   refine own_by (T' := T8) (g' := (mkF m 33 #[.val (.ref x), .val (.int 2), .val (.int ((2 : Int32) + (1 : Int32)))] [])) (fun _ kt_ => XS.iinc X8.here hx rfl (hb hby own_d6_30) rfl (l' := #[.val (.ref x), .val (.int 2), .val (.int ((2 : Int32) + (1 : Int32)))]) rfl kt_) ?_
   rw [show ((2 : Int32) + (1 : Int32)) = (3 : Int32) from by decide]
   refine own_by (T' := T8) (g' := (mkF m 2 #[.val (.ref x), .val (.int 2), .val (.int 3)] [])) (fun _ kt_ => XS.goto X8.here hx rfl (pc0 := 33) (pc' := 2) rfl (hb hby own_d6_33) (by decide) (by decide) kt_) ?_
   refine own_by (T' := T8) (g' := (mkF m 3 #[.val (.ref x), .val (.int 2), .val (.int 3)] [.int 3])) (fun _ kt_ => XS.iloadN X8.here hx rfl (hb hby own_d6_2) rfl kt_) ?_
   refine own_by (T' := T8) (g' := (mkF m 4 #[.val (.ref x), .val (.int 2), .val (.int 3)] [.ref x, .int 3])) (fun _ kt_ => XS.aloadN X8.here hx rfl (hb hby own_d6_3) rfl rfl kt_) ?_
   obtain ⟨cq13, kq13, q13a, q13b, q13c⟩ := isOf hZ e8 E_x
   obtain ⟨_, _, ⟨T13, L13, k13, n13⟩, -, X13, ⟨Lc13, hQ13, l13, y13, z13⟩, st13⟩ := X8.virtualBack hx (y := (⟨"java/lang/String", "length", "()I"⟩ : MethodName)) (z := (⟨"java/lang/String", "length", "()I"⟩ : MethodName)) hown (mvT hZ (ww hw 33 rfl)) (mvT hZ (ww hw 34 rfl)) (notFace_of_selects (args := #[]) (mvT hZ (ww hw 36 rfl))) (mvT hZ (ww hw 36 rfl)) (mvT hZ (ww hw 35 rfl)) (by decide) (backOf (W := 1) (rmLen_3 l Z a0 hw [] zC vF hvF GS x t kB c0 c1 c2 h0 n0 (by omega) O0 E_x Fv Fc Vt) hZ (ww hw 37 rfl) (ww hw 9 rfl) (by decide) (by decide)) q13a q13c (g := (mkF m 4 #[.val (.ref x), .val (.int 2), .val (.int 3)] [.ref x, .int 3])) rfl (by rw [hml]; rfl) (Steps.refl _) (argsL := []) (rest := [.int 3]) (lenOf own_pd_10 rfl) rfl (by show 2 * 0 + _ ≤ _; exact Nat.le_of_eq rfl) (hb hby own_d6_4) (fun _ _ => ⟨rfl, e8, (by decide : 0 + 0 ≤ _), (by decide : 0 + 0 ≤ _)⟩)
   dsimp only [Pt.U, Pt.locs, Pt.cells, Pt.slots] at X13 l13 y13 z13 st13 hQ13
   subst l13 y13 z13
   obtain ⟨rfl, N13q, e13⟩ := hQ13
   have N14 := Fr.app N9 N13q
   refine own_by (T' := T13) (g' := (mkF m 7 #[.val (.ref x), .val (.int 2), .val (.int 3)] [.int 3, .int 3])) (fun _ kt_ => st13.trans kt_) ?_
   refine own_by (T' := T13) (g' := (mkF m 36 #[.val (.ref x), .val (.int 2), .val (.int 3)] [])) (fun _ kt_ => XS.icmpYes X13.here hx rfl (pc0 := 7) (pc' := 36) rfl (hb hby own_d6_7) rfl (XT.ii_ge_t (by decide)) (by decide) (by decide) kt_) ?_
   refine own_by (T' := T13) (g' := (mkF m 37 #[.val (.ref x), .val (.int 2), .val (.int 3)] [.int 3])) (fun _ kt_ => XS.iloadN X13.here hx rfl (hb hby own_d6_36) rfl kt_) ?_
   refine own_by (T' := T13) (g' := (mkF m 38 #[.val (.ref x), .val (.int 2), .val (.int 3)] [.int 2, .int 3])) (fun _ kt_ => XS.iloadN X13.here hx rfl (hb hby own_d6_37) rfl kt_) ?_
   refine own_by (T' := T13) (g' := (mkF m 39 #[.val (.ref x), .val (.int 2), .val (.int 3)] [(.int ((3 : Int32) - (2 : Int32)))])) (fun _ kt_ => XS.isub X13.here hx rfl (hb hby own_d6_38) rfl kt_) ?_
   rw [show ((3 : Int32) - (2 : Int32)) = (1 : Int32) from by decide]
   have hr15 : (1 : Int32) = (if c2 < (48 : Int32) then (0 : Int32) else (if (57 : Int32) < c2 then (0 : Int32) else (1 : Int32))) := by simp [hc5, hc10]
   obtain ⟨fs16, hr16, hrun16, hended16, hW16, hsame16⟩ := X13.leave (v := some (.int 1)) (fun h => by rw [Bd.returns] at h; cases h)
   refine ⟨_, _, retOut X13 hx (t := .int) Bd.returns rfl (Or.inl ⟨rfl, Or.inl rfl, _, rfl⟩) (hb hby own_d6_39) hr16, hrun16, hended16, _, _, rfl, ?_, ⟨_, rfl⟩, hW16, hsame16.mono (by decide) (by decide)⟩
   show Q_rmD_3_2 Z zC vF hvF x t kB c0 c1 c2 h0 n0 _ T13.heap _
   exact ⟨(congrArg (fun z => some (Value.int z)) hr15), N14, e13⟩
theorem own_ef_rmD_4_3 (m : MethodId) (x0 : Addr) (x1 : Int32) : entryFrame m #[.ref x0, .int x1] 3 = mkF m 0 #[.val (.ref x0), .val (.int x1), .unset] [] := by first | (simp [entryFrame, mkF, argsToLocals, Value.category]; done) | rfl
def Q_rmD_4_3 (Z : State) (zC : Int32) (vF : Value) (hvF : vF.isRef = true) (x : Addr) (t : Addr) (kB : ClassId) (c0 : Int32) (c1 : Int32) (c2 : Int32) (c3 : Int32) (h0 : Heap) (n0 : Nat) (vv_ : Option Value) (hh_ : Heap) (LL_ : List Loc) : Prop := vv_ = some (.int (if c3 < (48 : Int32) then (0 : Int32) else (if (57 : Int32) < c3 then (0 : Int32) else (1 : Int32)))) ∧ Fr n0 LL_ ∧ hh_ = h0
set_option maxRecDepth 65536 in
set_option maxHeartbeats 40000000 in
theorem rmD_4_3 (l : Launch) (Z : State) (a0 : Array Value) (hw : ∀ d ∈ tables_1, d.before a0 Z = true) (ws : List Jvm.Cond) (zC : Int32) (vF : Value) (hvF : vF.isRef = true) (GS : Glob Z zC vF hvF) (x : Addr) (t : Addr) (kB : ClassId) (c0 : Int32) (c1 : Int32) (c2 : Int32) (c3 : Int32) (h0 : Heap) (n0 : Nat) (Z0 : n0 ≤ h0.size) (O0 : Old Z n0 h0) (E_x : Exa Z h0 x "java/lang/String") (Fv : Fld Z h0 x "java/lang/String" "value" "[B" (.ref t)) (Fc : Fld Z h0 x "java/lang/String" "coder" "B" (.int 0)) (Vt : Arv Z h0 t kB .byte (4 : Int32) [(.int c0.toInt8.toInt32), (.int c1.toInt8.toInt32), (.int c2.toInt8.toInt32), (.int c3.toInt8.toInt32)] (.int 0)) (ok0 : okF c0) (ok1 : okF c1) (ok2 : okF c2) (ok3 : okF c3) :
  MetFree l (⟨"com/example/vestledger/vestledger/journal/JournalDecimals", "digitsFrom", "(Ljava/lang/String;I)I"⟩ : MethodName) (head1 (Jvm.Cond.code (⟨"com/example/vestledger/vestledger/journal/JournalDecimals", "digitsFrom", "(Ljava/lang/String;I)I"⟩ : MethodName) prog_21_method_5_code 3 (some .int) :: ws) (⟨4, 0, 0, 53⟩ : Room)) (fun aa_ UU_ => aa_ = #[.ref x, .int 3] ∧ Z.Warmed39 UU_.vm ∧ UU_.heap = h0) (fun _ _ _ _ _ => True) (fun _ UU_ oo_ UV_ => ∃ vv_ LL_, oo_ = .returned vv_ ∧ Q_rmD_4_3 Z zC vF hvF x t kB c0 c1 c2 c3 h0 n0 vv_ UV_.heap LL_ ∧ FrameEnd UU_ oo_ UV_ LL_ (⟨4, 0, 0, 53⟩ : Room).cells (⟨4, 0, 0, 53⟩ : Room).slots) := by
 refine MetFree.of_bodySF (plainFor_of_name own_pn_com_example_vestledger_vestledger_journal_JournalDecimals) hisR ?_
 intro p e s m args below meth c s₁ Bd hml0 hP hK
 obtain ⟨rfl, hZ, hh⟩ := hP
 have hx := Bd.exec
 have hby := Bd.bytes
 have hml : c.maxLocals = 3 := hml0
 have hown : s.vm.findClass "com/example/vestledger/vestledger/journal/JournalDecimals" = some m.cls := findClass_of_methodNamed Bd.named
 have hnm := (name_of_methodNamed Bd.named Bd.method).1
 have X0 : Stand p l e (⟨4, 0, 0, 53⟩ : Room) s m #[.ref x, .int 3] below meth c s₁ [] 0 0 := Stand.of_body Bd
 have e0 : s₁.heap = h0 := by rw [← hh, Bd.state]; rfl
 have N0 := Fr.nil n0
 have hn0 : Z.heap.size = n0 := O0.1
 have KT0 : Keep h0 h0 [] := Keep.refl _ _
 refine own_enter (Φ := fun oo_ UV_ => ∃ vv_ LL_, oo_ = .returned vv_ ∧ Q_rmD_4_3 Z zC vF hvF x t kB c0 c1 c2 c3 h0 n0 vv_ UV_.heap LL_ ∧ FrameEnd s oo_ UV_ LL_ (⟨4, 0, 0, 53⟩ : Room).cells (⟨4, 0, 0, 53⟩ : Room).slots) (own_ef_rmD_4_3 m x (3 : Int32)) ?_
 refine own_by (T' := s₁) (g' := (mkF m 1 #[.val (.ref x), .val (.int 3), .unset] [.int 3])) (fun _ kt_ => XS.iloadN X0.here hx rfl (hb hby own_d6_0) rfl kt_) ?_
 refine own_by (T' := s₁) (g' := (mkF m 2 #[.val (.ref x), .val (.int 3), .val (.int 3)] [])) (fun _ kt_ => XS.istoreN X0.here hx rfl (hb hby own_d6_1) rfl (l' := #[.val (.ref x), .val (.int 3), .val (.int 3)]) rfl kt_) ?_
 refine own_by (T' := s₁) (g' := (mkF m 3 #[.val (.ref x), .val (.int 3), .val (.int 3)] [.int 3])) (fun _ kt_ => XS.iloadN X0.here hx rfl (hb hby own_d6_2) rfl kt_) ?_
 refine own_by (T' := s₁) (g' := (mkF m 4 #[.val (.ref x), .val (.int 3), .val (.int 3)] [.ref x, .int 3])) (fun _ kt_ => XS.aloadN X0.here hx rfl (hb hby own_d6_3) rfl rfl kt_) ?_
 obtain ⟨cq1, kq1, q1a, q1b, q1c⟩ := isOf hZ e0 E_x
 obtain ⟨_, _, ⟨T1, L1, k1, n1⟩, -, X1, ⟨Lc1, hQ1, l1, y1, z1⟩, st1⟩ := X0.virtualBack hx (y := (⟨"java/lang/String", "length", "()I"⟩ : MethodName)) (z := (⟨"java/lang/String", "length", "()I"⟩ : MethodName)) hown (mvT hZ (ww hw 33 rfl)) (mvT hZ (ww hw 34 rfl)) (notFace_of_selects (args := #[]) (mvT hZ (ww hw 36 rfl))) (mvT hZ (ww hw 36 rfl)) (mvT hZ (ww hw 35 rfl)) (by decide) (backOf (W := 1) (rmLen_4 l Z a0 hw [] zC vF hvF GS x t kB c0 c1 c2 c3 h0 n0 (by omega) O0 E_x Fv Fc Vt) hZ (ww hw 37 rfl) (ww hw 9 rfl) (by decide) (by decide)) q1a q1c (g := (mkF m 4 #[.val (.ref x), .val (.int 3), .val (.int 3)] [.ref x, .int 3])) rfl (by rw [hml]; rfl) (Steps.refl _) (argsL := []) (rest := [.int 3]) (lenOf own_pd_10 rfl) rfl (by show 2 * 0 + _ ≤ _; exact Nat.le_of_eq rfl) (hb hby own_d6_4) (fun _ _ => ⟨rfl, e0, (by decide : 0 + 0 ≤ _), (by decide : 0 + 0 ≤ _)⟩)
 dsimp only [Pt.U, Pt.locs, Pt.cells, Pt.slots] at X1 l1 y1 z1 st1 hQ1
 subst l1 y1 z1
 obtain ⟨rfl, N1q, e1⟩ := hQ1
 have N2 := Fr.app N0 N1q
 refine own_by (T' := T1) (g' := (mkF m 7 #[.val (.ref x), .val (.int 3), .val (.int 3)] [.int 4, .int 3])) (fun _ kt_ => st1.trans kt_) ?_
 refine own_by (T' := T1) (g' := (mkF m 10 #[.val (.ref x), .val (.int 3), .val (.int 3)] [])) (fun _ kt_ => XS.icmpNo X1.here hx rfl (hb hby own_d6_7) rfl (XT.ii_ge_f (by decide)) kt_) ?_
 refine own_by (T' := T1) (g' := (mkF m 11 #[.val (.ref x), .val (.int 3), .val (.int 3)] [.ref x])) (fun _ kt_ => XS.aloadN X1.here hx rfl (hb hby own_d6_10) rfl rfl kt_) ?_
 refine own_by (T' := T1) (g' := (mkF m 12 #[.val (.ref x), .val (.int 3), .val (.int 3)] [.int 3, .ref x])) (fun _ kt_ => XS.iloadN X1.here hx rfl (hb hby own_d6_11) rfl kt_) ?_
 obtain ⟨cq3, kq3, q3a, q3b, q3c⟩ := isOf hZ e1 E_x
 obtain ⟨_, _, ⟨T3, L3, k3, n3⟩, -, X3, ⟨Lc3, hQ3, l3, y3, z3⟩, st3⟩ := X1.virtualBack hx (y := (⟨"java/lang/String", "charAt", "(I)C"⟩ : MethodName)) (z := (⟨"java/lang/String", "charAt", "(I)C"⟩ : MethodName)) hown (mvT hZ (ww hw 57 rfl)) (mvT hZ (ww hw 58 rfl)) (notFace_of_selects (args := #[]) (mvT hZ (ww hw 60 rfl))) (mvT hZ (ww hw 60 rfl)) (mvT hZ (ww hw 59 rfl)) (by decide) (backOf (W := 0) (rmChr_4_3 l Z a0 hw [] zC vF hvF GS x t kB c0 c1 c2 c3 h0 n0 (by omega) O0 E_x Fv Fc Vt ok3) hZ (ww hw 61 rfl) (ww hw 9 rfl) (by decide) (by decide)) q3a q3c (g := (mkF m 12 #[.val (.ref x), .val (.int 3), .val (.int 3)] [.int 3, .ref x])) rfl (by rw [hml]; rfl) (Steps.refl _) (argsL := [.int 3]) (rest := []) (lenOf own_pd_11 rfl) rfl (by show 2 * 0 + _ ≤ _; exact Nat.le_of_eq rfl) (hb hby own_d6_12) (fun _ _ => ⟨rfl, e1, (by decide : 0 + 0 ≤ _), (by decide : 0 + 0 ≤ _)⟩)
 dsimp only [Pt.U, Pt.locs, Pt.cells, Pt.slots] at X3 l3 y3 z3 st3 hQ3
 subst l3 y3 z3
 obtain ⟨rfl, N3q, e3⟩ := hQ3
 have N4 := Fr.app N2 N3q
 refine own_by (T' := T3) (g' := (mkF m 15 #[.val (.ref x), .val (.int 3), .val (.int 3)] [.int c3])) (fun _ kt_ => st3.trans kt_) ?_
 refine own_by (T' := T3) (g' := (mkF m 17 #[.val (.ref x), .val (.int 3), .val (.int 3)] [.int 48, .int c3])) (fun _ kt_ => XS.bipush X3.here hx rfl (hb hby own_d6_15) kt_) ?_
 by_cases hc5 : c3 < (48 : Int32)
 ·refine own_by (T' := T3) (g' := (mkF m 36 #[.val (.ref x), .val (.int 3), .val (.int 3)] [])) (fun _ kt_ => XS.icmpYes X3.here hx rfl (pc0 := 17) (pc' := 36) rfl (hb hby own_d6_17) rfl (XT.ii_lt_t hc5) (by decide) (by decide) kt_) ?_
  refine own_by (T' := T3) (g' := (mkF m 37 #[.val (.ref x), .val (.int 3), .val (.int 3)] [.int 3])) (fun _ kt_ => XS.iloadN X3.here hx rfl (hb hby own_d6_36) rfl kt_) ?_
  refine own_by (T' := T3) (g' := (mkF m 38 #[.val (.ref x), .val (.int 3), .val (.int 3)] [.int 3, .int 3])) (fun _ kt_ => XS.iloadN X3.here hx rfl (hb hby own_d6_37) rfl kt_) ?_
  refine own_by (T' := T3) (g' := (mkF m 39 #[.val (.ref x), .val (.int 3), .val (.int 3)] [(.int ((3 : Int32) - (3 : Int32)))])) (fun _ kt_ => XS.isub X3.here hx rfl (hb hby own_d6_38) rfl kt_) ?_
  rw [show ((3 : Int32) - (3 : Int32)) = (0 : Int32) from by decide]
  have hr6 : (0 : Int32) = (if c3 < (48 : Int32) then (0 : Int32) else (if (57 : Int32) < c3 then (0 : Int32) else (1 : Int32))) := by simp [hc5]
  obtain ⟨fs7, hr7, hrun7, hended7, hW7, hsame7⟩ := X3.leave (v := some (.int 0)) (fun h => by rw [Bd.returns] at h; cases h)
  refine ⟨_, _, retOut X3 hx (t := .int) Bd.returns rfl (Or.inl ⟨rfl, Or.inl rfl, _, rfl⟩) (hb hby own_d6_39) hr7, hrun7, hended7, _, _, rfl, ?_, ⟨_, rfl⟩, hW7, hsame7.mono (by decide) (by decide)⟩
  show Q_rmD_4_3 Z zC vF hvF x t kB c0 c1 c2 c3 h0 n0 _ T3.heap _
  exact ⟨(congrArg (fun z => some (Value.int z)) hr6), N4, e3⟩
 ·refine own_by (T' := T3) (g' := (mkF m 20 #[.val (.ref x), .val (.int 3), .val (.int 3)] [])) (fun _ kt_ => XS.icmpNo X3.here hx rfl (hb hby own_d6_17) rfl (XT.ii_lt_f hc5) kt_) ?_
  refine own_by (T' := T3) (g' := (mkF m 21 #[.val (.ref x), .val (.int 3), .val (.int 3)] [.ref x])) (fun _ kt_ => XS.aloadN X3.here hx rfl (hb hby own_d6_20) rfl rfl kt_) ?_
  refine own_by (T' := T3) (g' := (mkF m 22 #[.val (.ref x), .val (.int 3), .val (.int 3)] [.int 3, .ref x])) (fun _ kt_ => XS.iloadN X3.here hx rfl (hb hby own_d6_21) rfl kt_) ?_
  obtain ⟨cq8, kq8, q8a, q8b, q8c⟩ := isOf hZ e3 E_x
  obtain ⟨_, _, ⟨T8, L8, k8, n8⟩, -, X8, ⟨Lc8, hQ8, l8, y8, z8⟩, st8⟩ := X3.virtualBack hx (y := (⟨"java/lang/String", "charAt", "(I)C"⟩ : MethodName)) (z := (⟨"java/lang/String", "charAt", "(I)C"⟩ : MethodName)) hown (mvT hZ (ww hw 57 rfl)) (mvT hZ (ww hw 58 rfl)) (notFace_of_selects (args := #[]) (mvT hZ (ww hw 60 rfl))) (mvT hZ (ww hw 60 rfl)) (mvT hZ (ww hw 59 rfl)) (by decide) (backOf (W := 0) (rmChr_4_3 l Z a0 hw [] zC vF hvF GS x t kB c0 c1 c2 c3 h0 n0 (by omega) O0 E_x Fv Fc Vt ok3) hZ (ww hw 61 rfl) (ww hw 9 rfl) (by decide) (by decide)) q8a q8c (g := (mkF m 22 #[.val (.ref x), .val (.int 3), .val (.int 3)] [.int 3, .ref x])) rfl (by rw [hml]; rfl) (Steps.refl _) (argsL := [.int 3]) (rest := []) (lenOf own_pd_11 rfl) rfl (by show 2 * 0 + _ ≤ _; exact Nat.le_of_eq rfl) (hb hby own_d6_22) (fun _ _ => ⟨rfl, e3, (by decide : 0 + 0 ≤ _), (by decide : 0 + 0 ≤ _)⟩)
  dsimp only [Pt.U, Pt.locs, Pt.cells, Pt.slots] at X8 l8 y8 z8 st8 hQ8
  subst l8 y8 z8
  obtain ⟨rfl, N8q, e8⟩ := hQ8
  have N9 := Fr.app N4 N8q
  refine own_by (T' := T8) (g' := (mkF m 25 #[.val (.ref x), .val (.int 3), .val (.int 3)] [.int c3])) (fun _ kt_ => st8.trans kt_) ?_
  refine own_by (T' := T8) (g' := (mkF m 27 #[.val (.ref x), .val (.int 3), .val (.int 3)] [.int 57, .int c3])) (fun _ kt_ => XS.bipush X8.here hx rfl (hb hby own_d6_25) kt_) ?_
  by_cases hc10 : (57 : Int32) < c3
  ·refine own_by (T' := T8) (g' := (mkF m 36 #[.val (.ref x), .val (.int 3), .val (.int 3)] [])) (fun _ kt_ => XS.icmpYes X8.here hx rfl (pc0 := 27) (pc' := 36) rfl (hb hby own_d6_27) rfl (XT.ii_gt_t hc10) (by decide) (by decide) kt_) ?_
   refine own_by (T' := T8) (g' := (mkF m 37 #[.val (.ref x), .val (.int 3), .val (.int 3)] [.int 3])) (fun _ kt_ => XS.iloadN X8.here hx rfl (hb hby own_d6_36) rfl kt_) ?_
   refine own_by (T' := T8) (g' := (mkF m 38 #[.val (.ref x), .val (.int 3), .val (.int 3)] [.int 3, .int 3])) (fun _ kt_ => XS.iloadN X8.here hx rfl (hb hby own_d6_37) rfl kt_) ?_
   refine own_by (T' := T8) (g' := (mkF m 39 #[.val (.ref x), .val (.int 3), .val (.int 3)] [(.int ((3 : Int32) - (3 : Int32)))])) (fun _ kt_ => XS.isub X8.here hx rfl (hb hby own_d6_38) rfl kt_) ?_
   rw [show ((3 : Int32) - (3 : Int32)) = (0 : Int32) from by decide]
   have hr11 : (0 : Int32) = (if c3 < (48 : Int32) then (0 : Int32) else (if (57 : Int32) < c3 then (0 : Int32) else (1 : Int32))) := by simp [hc5, hc10]
   obtain ⟨fs12, hr12, hrun12, hended12, hW12, hsame12⟩ := X8.leave (v := some (.int 0)) (fun h => by rw [Bd.returns] at h; cases h)
   refine ⟨_, _, retOut X8 hx (t := .int) Bd.returns rfl (Or.inl ⟨rfl, Or.inl rfl, _, rfl⟩) (hb hby own_d6_39) hr12, hrun12, hended12, _, _, rfl, ?_, ⟨_, rfl⟩, hW12, hsame12.mono (by decide) (by decide)⟩
   show Q_rmD_4_3 Z zC vF hvF x t kB c0 c1 c2 c3 h0 n0 _ T8.heap _
   exact ⟨(congrArg (fun z => some (Value.int z)) hr11), N9, e8⟩
  ·refine own_by (T' := T8) (g' := (mkF m 30 #[.val (.ref x), .val (.int 3), .val (.int 3)] [])) (fun _ kt_ => XS.icmpNo X8.here hx rfl (hb hby own_d6_27) rfl (XT.ii_gt_f hc10) kt_) ?_
   refine own_by (T' := T8) (g' := (mkF m 33 #[.val (.ref x), .val (.int 3), .val (.int ((3 : Int32) + (1 : Int32)))] [])) (fun _ kt_ => XS.iinc X8.here hx rfl (hb hby own_d6_30) rfl (l' := #[.val (.ref x), .val (.int 3), .val (.int ((3 : Int32) + (1 : Int32)))]) rfl kt_) ?_
   rw [show ((3 : Int32) + (1 : Int32)) = (4 : Int32) from by decide]
   refine own_by (T' := T8) (g' := (mkF m 2 #[.val (.ref x), .val (.int 3), .val (.int 4)] [])) (fun _ kt_ => XS.goto X8.here hx rfl (pc0 := 33) (pc' := 2) rfl (hb hby own_d6_33) (by decide) (by decide) kt_) ?_
   refine own_by (T' := T8) (g' := (mkF m 3 #[.val (.ref x), .val (.int 3), .val (.int 4)] [.int 4])) (fun _ kt_ => XS.iloadN X8.here hx rfl (hb hby own_d6_2) rfl kt_) ?_
   refine own_by (T' := T8) (g' := (mkF m 4 #[.val (.ref x), .val (.int 3), .val (.int 4)] [.ref x, .int 4])) (fun _ kt_ => XS.aloadN X8.here hx rfl (hb hby own_d6_3) rfl rfl kt_) ?_
   obtain ⟨cq13, kq13, q13a, q13b, q13c⟩ := isOf hZ e8 E_x
   obtain ⟨_, _, ⟨T13, L13, k13, n13⟩, -, X13, ⟨Lc13, hQ13, l13, y13, z13⟩, st13⟩ := X8.virtualBack hx (y := (⟨"java/lang/String", "length", "()I"⟩ : MethodName)) (z := (⟨"java/lang/String", "length", "()I"⟩ : MethodName)) hown (mvT hZ (ww hw 33 rfl)) (mvT hZ (ww hw 34 rfl)) (notFace_of_selects (args := #[]) (mvT hZ (ww hw 36 rfl))) (mvT hZ (ww hw 36 rfl)) (mvT hZ (ww hw 35 rfl)) (by decide) (backOf (W := 1) (rmLen_4 l Z a0 hw [] zC vF hvF GS x t kB c0 c1 c2 c3 h0 n0 (by omega) O0 E_x Fv Fc Vt) hZ (ww hw 37 rfl) (ww hw 9 rfl) (by decide) (by decide)) q13a q13c (g := (mkF m 4 #[.val (.ref x), .val (.int 3), .val (.int 4)] [.ref x, .int 4])) rfl (by rw [hml]; rfl) (Steps.refl _) (argsL := []) (rest := [.int 4]) (lenOf own_pd_10 rfl) rfl (by show 2 * 0 + _ ≤ _; exact Nat.le_of_eq rfl) (hb hby own_d6_4) (fun _ _ => ⟨rfl, e8, (by decide : 0 + 0 ≤ _), (by decide : 0 + 0 ≤ _)⟩)
   dsimp only [Pt.U, Pt.locs, Pt.cells, Pt.slots] at X13 l13 y13 z13 st13 hQ13
   subst l13 y13 z13
   obtain ⟨rfl, N13q, e13⟩ := hQ13
   have N14 := Fr.app N9 N13q
   refine own_by (T' := T13) (g' := (mkF m 7 #[.val (.ref x), .val (.int 3), .val (.int 4)] [.int 4, .int 4])) (fun _ kt_ => st13.trans kt_) ?_
   refine own_by (T' := T13) (g' := (mkF m 36 #[.val (.ref x), .val (.int 3), .val (.int 4)] [])) (fun _ kt_ => XS.icmpYes X13.here hx rfl (pc0 := 7) (pc' := 36) rfl (hb hby own_d6_7) rfl (XT.ii_ge_t (by decide)) (by decide) (by decide) kt_) ?_
   refine own_by (T' := T13) (g' := (mkF m 37 #[.val (.ref x), .val (.int 3), .val (.int 4)] [.int 4])) (fun _ kt_ => XS.iloadN X13.here hx rfl (hb hby own_d6_36) rfl kt_) ?_
   refine own_by (T' := T13) (g' := (mkF m 38 #[.val (.ref x), .val (.int 3), .val (.int 4)] [.int 3, .int 4])) (fun _ kt_ => XS.iloadN X13.here hx rfl (hb hby own_d6_37) rfl kt_) ?_
   refine own_by (T' := T13) (g' := (mkF m 39 #[.val (.ref x), .val (.int 3), .val (.int 4)] [(.int ((4 : Int32) - (3 : Int32)))])) (fun _ kt_ => XS.isub X13.here hx rfl (hb hby own_d6_38) rfl kt_) ?_
   rw [show ((4 : Int32) - (3 : Int32)) = (1 : Int32) from by decide]
   have hr15 : (1 : Int32) = (if c3 < (48 : Int32) then (0 : Int32) else (if (57 : Int32) < c3 then (0 : Int32) else (1 : Int32))) := by simp [hc5, hc10]
   obtain ⟨fs16, hr16, hrun16, hended16, hW16, hsame16⟩ := X13.leave (v := some (.int 1)) (fun h => by rw [Bd.returns] at h; cases h)
   refine ⟨_, _, retOut X13 hx (t := .int) Bd.returns rfl (Or.inl ⟨rfl, Or.inl rfl, _, rfl⟩) (hb hby own_d6_39) hr16, hrun16, hended16, _, _, rfl, ?_, ⟨_, rfl⟩, hW16, hsame16.mono (by decide) (by decide)⟩
   show Q_rmD_4_3 Z zC vF hvF x t kB c0 c1 c2 c3 h0 n0 _ T13.heap _
   exact ⟨(congrArg (fun z => some (Value.int z)) hr15), N14, e13⟩
theorem own_ef_rmD_0_0 (m : MethodId) (x0 : Addr) (x1 : Int32) : entryFrame m #[.ref x0, .int x1] 3 = mkF m 0 #[.val (.ref x0), .val (.int x1), .unset] [] := by first | (simp [entryFrame, mkF, argsToLocals, Value.category]; done) | rfl
def Q_rmD_0_0 (Z : State) (zC : Int32) (vF : Value) (hvF : vF.isRef = true) (x : Addr) (t : Addr) (kB : ClassId) (h0 : Heap) (n0 : Nat) (vv_ : Option Value) (hh_ : Heap) (LL_ : List Loc) : Prop := vv_ = some (.int 0) ∧ Fr n0 LL_ ∧ hh_ = h0
set_option maxRecDepth 65536 in
set_option maxHeartbeats 40000000 in
theorem rmD_0_0 (l : Launch) (Z : State) (a0 : Array Value) (hw : ∀ d ∈ tables_1, d.before a0 Z = true) (ws : List Jvm.Cond) (zC : Int32) (vF : Value) (hvF : vF.isRef = true) (GS : Glob Z zC vF hvF) (x : Addr) (t : Addr) (kB : ClassId) (h0 : Heap) (n0 : Nat) (Z0 : n0 ≤ h0.size) (O0 : Old Z n0 h0) (E_x : Exa Z h0 x "java/lang/String") (Fv : Fld Z h0 x "java/lang/String" "value" "[B" (.ref t)) (Fc : Fld Z h0 x "java/lang/String" "coder" "B" (.int 0)) (Vt : Arv Z h0 t kB .byte (0 : Int32) [] (.int 0)) :
  MetFree l (⟨"com/example/vestledger/vestledger/journal/JournalDecimals", "digitsFrom", "(Ljava/lang/String;I)I"⟩ : MethodName) (head1 (Jvm.Cond.code (⟨"com/example/vestledger/vestledger/journal/JournalDecimals", "digitsFrom", "(Ljava/lang/String;I)I"⟩ : MethodName) prog_21_method_5_code 3 (some .int) :: ws) (⟨4, 0, 0, 53⟩ : Room)) (fun aa_ UU_ => aa_ = #[.ref x, .int 0] ∧ Z.Warmed39 UU_.vm ∧ UU_.heap = h0) (fun _ _ _ _ _ => True) (fun _ UU_ oo_ UV_ => ∃ vv_ LL_, oo_ = .returned vv_ ∧ Q_rmD_0_0 Z zC vF hvF x t kB h0 n0 vv_ UV_.heap LL_ ∧ FrameEnd UU_ oo_ UV_ LL_ (⟨4, 0, 0, 53⟩ : Room).cells (⟨4, 0, 0, 53⟩ : Room).slots) := by
 refine MetFree.of_bodySF (plainFor_of_name own_pn_com_example_vestledger_vestledger_journal_JournalDecimals) hisR ?_
 intro p e s m args below meth c s₁ Bd hml0 hP hK
 obtain ⟨rfl, hZ, hh⟩ := hP
 have hx := Bd.exec
 have hby := Bd.bytes
 have hml : c.maxLocals = 3 := hml0
 have hown : s.vm.findClass "com/example/vestledger/vestledger/journal/JournalDecimals" = some m.cls := findClass_of_methodNamed Bd.named
 have hnm := (name_of_methodNamed Bd.named Bd.method).1
 have X0 : Stand p l e (⟨4, 0, 0, 53⟩ : Room) s m #[.ref x, .int 0] below meth c s₁ [] 0 0 := Stand.of_body Bd
 have e0 : s₁.heap = h0 := by rw [← hh, Bd.state]; rfl
 have N0 := Fr.nil n0
 have hn0 : Z.heap.size = n0 := O0.1
 have KT0 : Keep h0 h0 [] := Keep.refl _ _
 refine own_enter (Φ := fun oo_ UV_ => ∃ vv_ LL_, oo_ = .returned vv_ ∧ Q_rmD_0_0 Z zC vF hvF x t kB h0 n0 vv_ UV_.heap LL_ ∧ FrameEnd s oo_ UV_ LL_ (⟨4, 0, 0, 53⟩ : Room).cells (⟨4, 0, 0, 53⟩ : Room).slots) (own_ef_rmD_0_0 m x (0 : Int32)) ?_
 refine own_by (T' := s₁) (g' := (mkF m 1 #[.val (.ref x), .val (.int 0), .unset] [.int 0])) (fun _ kt_ => XS.iloadN X0.here hx rfl (hb hby own_d6_0) rfl kt_) ?_
 refine own_by (T' := s₁) (g' := (mkF m 2 #[.val (.ref x), .val (.int 0), .val (.int 0)] [])) (fun _ kt_ => XS.istoreN X0.here hx rfl (hb hby own_d6_1) rfl (l' := #[.val (.ref x), .val (.int 0), .val (.int 0)]) rfl kt_) ?_
 refine own_by (T' := s₁) (g' := (mkF m 3 #[.val (.ref x), .val (.int 0), .val (.int 0)] [.int 0])) (fun _ kt_ => XS.iloadN X0.here hx rfl (hb hby own_d6_2) rfl kt_) ?_
 refine own_by (T' := s₁) (g' := (mkF m 4 #[.val (.ref x), .val (.int 0), .val (.int 0)] [.ref x, .int 0])) (fun _ kt_ => XS.aloadN X0.here hx rfl (hb hby own_d6_3) rfl rfl kt_) ?_
 obtain ⟨cq1, kq1, q1a, q1b, q1c⟩ := isOf hZ e0 E_x
 obtain ⟨_, _, ⟨T1, L1, k1, n1⟩, -, X1, ⟨Lc1, hQ1, l1, y1, z1⟩, st1⟩ := X0.virtualBack hx (y := (⟨"java/lang/String", "length", "()I"⟩ : MethodName)) (z := (⟨"java/lang/String", "length", "()I"⟩ : MethodName)) hown (mvT hZ (ww hw 33 rfl)) (mvT hZ (ww hw 34 rfl)) (notFace_of_selects (args := #[]) (mvT hZ (ww hw 36 rfl))) (mvT hZ (ww hw 36 rfl)) (mvT hZ (ww hw 35 rfl)) (by decide) (backOf (W := 1) (rmLen_0 l Z a0 hw [] zC vF hvF GS x t kB h0 n0 (by omega) O0 E_x Fv Fc Vt) hZ (ww hw 37 rfl) (ww hw 9 rfl) (by decide) (by decide)) q1a q1c (g := (mkF m 4 #[.val (.ref x), .val (.int 0), .val (.int 0)] [.ref x, .int 0])) rfl (by rw [hml]; rfl) (Steps.refl _) (argsL := []) (rest := [.int 0]) (lenOf own_pd_10 rfl) rfl (by show 2 * 0 + _ ≤ _; exact Nat.le_of_eq rfl) (hb hby own_d6_4) (fun _ _ => ⟨rfl, e0, (by decide : 0 + 0 ≤ _), (by decide : 0 + 0 ≤ _)⟩)
 dsimp only [Pt.U, Pt.locs, Pt.cells, Pt.slots] at X1 l1 y1 z1 st1 hQ1
 subst l1 y1 z1
 obtain ⟨rfl, N1q, e1⟩ := hQ1
 have N2 := Fr.app N0 N1q
 refine own_by (T' := T1) (g' := (mkF m 7 #[.val (.ref x), .val (.int 0), .val (.int 0)] [.int 0, .int 0])) (fun _ kt_ => st1.trans kt_) ?_
 refine own_by (T' := T1) (g' := (mkF m 36 #[.val (.ref x), .val (.int 0), .val (.int 0)] [])) (fun _ kt_ => XS.icmpYes X1.here hx rfl (pc0 := 7) (pc' := 36) rfl (hb hby own_d6_7) rfl (XT.ii_ge_t (by decide)) (by decide) (by decide) kt_) ?_
 refine own_by (T' := T1) (g' := (mkF m 37 #[.val (.ref x), .val (.int 0), .val (.int 0)] [.int 0])) (fun _ kt_ => XS.iloadN X1.here hx rfl (hb hby own_d6_36) rfl kt_) ?_
 refine own_by (T' := T1) (g' := (mkF m 38 #[.val (.ref x), .val (.int 0), .val (.int 0)] [.int 0, .int 0])) (fun _ kt_ => XS.iloadN X1.here hx rfl (hb hby own_d6_37) rfl kt_) ?_
 refine own_by (T' := T1) (g' := (mkF m 39 #[.val (.ref x), .val (.int 0), .val (.int 0)] [(.int ((0 : Int32) - (0 : Int32)))])) (fun _ kt_ => XS.isub X1.here hx rfl (hb hby own_d6_38) rfl kt_) ?_
 rw [show ((0 : Int32) - (0 : Int32)) = (0 : Int32) from by decide]
 obtain ⟨fs3, hr3, hrun3, hended3, hW3, hsame3⟩ := X1.leave (v := some (.int 0)) (fun h => by rw [Bd.returns] at h; cases h)
 refine ⟨_, _, retOut X1 hx (t := .int) Bd.returns rfl (Or.inl ⟨rfl, Or.inl rfl, _, rfl⟩) (hb hby own_d6_39) hr3, hrun3, hended3, _, _, rfl, ?_, ⟨_, rfl⟩, hW3, hsame3.mono (by decide) (by decide)⟩
 show Q_rmD_0_0 Z zC vF hvF x t kB h0 n0 _ T1.heap _
 exact ⟨rfl, N2, e1⟩
theorem own_ef_rmD_1_1 (m : MethodId) (x0 : Addr) (x1 : Int32) : entryFrame m #[.ref x0, .int x1] 3 = mkF m 0 #[.val (.ref x0), .val (.int x1), .unset] [] := by first | (simp [entryFrame, mkF, argsToLocals, Value.category]; done) | rfl
def Q_rmD_1_1 (Z : State) (zC : Int32) (vF : Value) (hvF : vF.isRef = true) (x : Addr) (t : Addr) (kB : ClassId) (c0 : Int32) (h0 : Heap) (n0 : Nat) (vv_ : Option Value) (hh_ : Heap) (LL_ : List Loc) : Prop := vv_ = some (.int 0) ∧ Fr n0 LL_ ∧ hh_ = h0
set_option maxRecDepth 65536 in
set_option maxHeartbeats 40000000 in
theorem rmD_1_1 (l : Launch) (Z : State) (a0 : Array Value) (hw : ∀ d ∈ tables_1, d.before a0 Z = true) (ws : List Jvm.Cond) (zC : Int32) (vF : Value) (hvF : vF.isRef = true) (GS : Glob Z zC vF hvF) (x : Addr) (t : Addr) (kB : ClassId) (c0 : Int32) (h0 : Heap) (n0 : Nat) (Z0 : n0 ≤ h0.size) (O0 : Old Z n0 h0) (E_x : Exa Z h0 x "java/lang/String") (Fv : Fld Z h0 x "java/lang/String" "value" "[B" (.ref t)) (Fc : Fld Z h0 x "java/lang/String" "coder" "B" (.int 0)) (Vt : Arv Z h0 t kB .byte (1 : Int32) [(.int c0.toInt8.toInt32)] (.int 0)) (ok0 : okF c0) :
  MetFree l (⟨"com/example/vestledger/vestledger/journal/JournalDecimals", "digitsFrom", "(Ljava/lang/String;I)I"⟩ : MethodName) (head1 (Jvm.Cond.code (⟨"com/example/vestledger/vestledger/journal/JournalDecimals", "digitsFrom", "(Ljava/lang/String;I)I"⟩ : MethodName) prog_21_method_5_code 3 (some .int) :: ws) (⟨4, 0, 0, 53⟩ : Room)) (fun aa_ UU_ => aa_ = #[.ref x, .int 1] ∧ Z.Warmed39 UU_.vm ∧ UU_.heap = h0) (fun _ _ _ _ _ => True) (fun _ UU_ oo_ UV_ => ∃ vv_ LL_, oo_ = .returned vv_ ∧ Q_rmD_1_1 Z zC vF hvF x t kB c0 h0 n0 vv_ UV_.heap LL_ ∧ FrameEnd UU_ oo_ UV_ LL_ (⟨4, 0, 0, 53⟩ : Room).cells (⟨4, 0, 0, 53⟩ : Room).slots) := by
 refine MetFree.of_bodySF (plainFor_of_name own_pn_com_example_vestledger_vestledger_journal_JournalDecimals) hisR ?_
 intro p e s m args below meth c s₁ Bd hml0 hP hK
 obtain ⟨rfl, hZ, hh⟩ := hP
 have hx := Bd.exec
 have hby := Bd.bytes
 have hml : c.maxLocals = 3 := hml0
 have hown : s.vm.findClass "com/example/vestledger/vestledger/journal/JournalDecimals" = some m.cls := findClass_of_methodNamed Bd.named
 have hnm := (name_of_methodNamed Bd.named Bd.method).1
 have X0 : Stand p l e (⟨4, 0, 0, 53⟩ : Room) s m #[.ref x, .int 1] below meth c s₁ [] 0 0 := Stand.of_body Bd
 have e0 : s₁.heap = h0 := by rw [← hh, Bd.state]; rfl
 have N0 := Fr.nil n0
 have hn0 : Z.heap.size = n0 := O0.1
 have KT0 : Keep h0 h0 [] := Keep.refl _ _
 refine own_enter (Φ := fun oo_ UV_ => ∃ vv_ LL_, oo_ = .returned vv_ ∧ Q_rmD_1_1 Z zC vF hvF x t kB c0 h0 n0 vv_ UV_.heap LL_ ∧ FrameEnd s oo_ UV_ LL_ (⟨4, 0, 0, 53⟩ : Room).cells (⟨4, 0, 0, 53⟩ : Room).slots) (own_ef_rmD_1_1 m x (1 : Int32)) ?_
 refine own_by (T' := s₁) (g' := (mkF m 1 #[.val (.ref x), .val (.int 1), .unset] [.int 1])) (fun _ kt_ => XS.iloadN X0.here hx rfl (hb hby own_d6_0) rfl kt_) ?_
 refine own_by (T' := s₁) (g' := (mkF m 2 #[.val (.ref x), .val (.int 1), .val (.int 1)] [])) (fun _ kt_ => XS.istoreN X0.here hx rfl (hb hby own_d6_1) rfl (l' := #[.val (.ref x), .val (.int 1), .val (.int 1)]) rfl kt_) ?_
 refine own_by (T' := s₁) (g' := (mkF m 3 #[.val (.ref x), .val (.int 1), .val (.int 1)] [.int 1])) (fun _ kt_ => XS.iloadN X0.here hx rfl (hb hby own_d6_2) rfl kt_) ?_
 refine own_by (T' := s₁) (g' := (mkF m 4 #[.val (.ref x), .val (.int 1), .val (.int 1)] [.ref x, .int 1])) (fun _ kt_ => XS.aloadN X0.here hx rfl (hb hby own_d6_3) rfl rfl kt_) ?_
 obtain ⟨cq1, kq1, q1a, q1b, q1c⟩ := isOf hZ e0 E_x
 obtain ⟨_, _, ⟨T1, L1, k1, n1⟩, -, X1, ⟨Lc1, hQ1, l1, y1, z1⟩, st1⟩ := X0.virtualBack hx (y := (⟨"java/lang/String", "length", "()I"⟩ : MethodName)) (z := (⟨"java/lang/String", "length", "()I"⟩ : MethodName)) hown (mvT hZ (ww hw 33 rfl)) (mvT hZ (ww hw 34 rfl)) (notFace_of_selects (args := #[]) (mvT hZ (ww hw 36 rfl))) (mvT hZ (ww hw 36 rfl)) (mvT hZ (ww hw 35 rfl)) (by decide) (backOf (W := 1) (rmLen_1 l Z a0 hw [] zC vF hvF GS x t kB c0 h0 n0 (by omega) O0 E_x Fv Fc Vt) hZ (ww hw 37 rfl) (ww hw 9 rfl) (by decide) (by decide)) q1a q1c (g := (mkF m 4 #[.val (.ref x), .val (.int 1), .val (.int 1)] [.ref x, .int 1])) rfl (by rw [hml]; rfl) (Steps.refl _) (argsL := []) (rest := [.int 1]) (lenOf own_pd_10 rfl) rfl (by show 2 * 0 + _ ≤ _; exact Nat.le_of_eq rfl) (hb hby own_d6_4) (fun _ _ => ⟨rfl, e0, (by decide : 0 + 0 ≤ _), (by decide : 0 + 0 ≤ _)⟩)
 dsimp only [Pt.U, Pt.locs, Pt.cells, Pt.slots] at X1 l1 y1 z1 st1 hQ1
 subst l1 y1 z1
 obtain ⟨rfl, N1q, e1⟩ := hQ1
 have N2 := Fr.app N0 N1q
 refine own_by (T' := T1) (g' := (mkF m 7 #[.val (.ref x), .val (.int 1), .val (.int 1)] [.int 1, .int 1])) (fun _ kt_ => st1.trans kt_) ?_
 refine own_by (T' := T1) (g' := (mkF m 36 #[.val (.ref x), .val (.int 1), .val (.int 1)] [])) (fun _ kt_ => XS.icmpYes X1.here hx rfl (pc0 := 7) (pc' := 36) rfl (hb hby own_d6_7) rfl (XT.ii_ge_t (by decide)) (by decide) (by decide) kt_) ?_
 refine own_by (T' := T1) (g' := (mkF m 37 #[.val (.ref x), .val (.int 1), .val (.int 1)] [.int 1])) (fun _ kt_ => XS.iloadN X1.here hx rfl (hb hby own_d6_36) rfl kt_) ?_
 refine own_by (T' := T1) (g' := (mkF m 38 #[.val (.ref x), .val (.int 1), .val (.int 1)] [.int 1, .int 1])) (fun _ kt_ => XS.iloadN X1.here hx rfl (hb hby own_d6_37) rfl kt_) ?_
 refine own_by (T' := T1) (g' := (mkF m 39 #[.val (.ref x), .val (.int 1), .val (.int 1)] [(.int ((1 : Int32) - (1 : Int32)))])) (fun _ kt_ => XS.isub X1.here hx rfl (hb hby own_d6_38) rfl kt_) ?_
 rw [show ((1 : Int32) - (1 : Int32)) = (0 : Int32) from by decide]
 obtain ⟨fs3, hr3, hrun3, hended3, hW3, hsame3⟩ := X1.leave (v := some (.int 0)) (fun h => by rw [Bd.returns] at h; cases h)
 refine ⟨_, _, retOut X1 hx (t := .int) Bd.returns rfl (Or.inl ⟨rfl, Or.inl rfl, _, rfl⟩) (hb hby own_d6_39) hr3, hrun3, hended3, _, _, rfl, ?_, ⟨_, rfl⟩, hW3, hsame3.mono (by decide) (by decide)⟩
 show Q_rmD_1_1 Z zC vF hvF x t kB c0 h0 n0 _ T1.heap _
 exact ⟨rfl, N2, e1⟩
theorem own_ef_rmD_2_2 (m : MethodId) (x0 : Addr) (x1 : Int32) : entryFrame m #[.ref x0, .int x1] 3 = mkF m 0 #[.val (.ref x0), .val (.int x1), .unset] [] := by first | (simp [entryFrame, mkF, argsToLocals, Value.category]; done) | rfl
def Q_rmD_2_2 (Z : State) (zC : Int32) (vF : Value) (hvF : vF.isRef = true) (x : Addr) (t : Addr) (kB : ClassId) (c0 : Int32) (c1 : Int32) (h0 : Heap) (n0 : Nat) (vv_ : Option Value) (hh_ : Heap) (LL_ : List Loc) : Prop := vv_ = some (.int 0) ∧ Fr n0 LL_ ∧ hh_ = h0
set_option maxRecDepth 65536 in
set_option maxHeartbeats 40000000 in
theorem rmD_2_2 (l : Launch) (Z : State) (a0 : Array Value) (hw : ∀ d ∈ tables_1, d.before a0 Z = true) (ws : List Jvm.Cond) (zC : Int32) (vF : Value) (hvF : vF.isRef = true) (GS : Glob Z zC vF hvF) (x : Addr) (t : Addr) (kB : ClassId) (c0 : Int32) (c1 : Int32) (h0 : Heap) (n0 : Nat) (Z0 : n0 ≤ h0.size) (O0 : Old Z n0 h0) (E_x : Exa Z h0 x "java/lang/String") (Fv : Fld Z h0 x "java/lang/String" "value" "[B" (.ref t)) (Fc : Fld Z h0 x "java/lang/String" "coder" "B" (.int 0)) (Vt : Arv Z h0 t kB .byte (2 : Int32) [(.int c0.toInt8.toInt32), (.int c1.toInt8.toInt32)] (.int 0)) (ok0 : okF c0) (ok1 : okF c1) :
  MetFree l (⟨"com/example/vestledger/vestledger/journal/JournalDecimals", "digitsFrom", "(Ljava/lang/String;I)I"⟩ : MethodName) (head1 (Jvm.Cond.code (⟨"com/example/vestledger/vestledger/journal/JournalDecimals", "digitsFrom", "(Ljava/lang/String;I)I"⟩ : MethodName) prog_21_method_5_code 3 (some .int) :: ws) (⟨4, 0, 0, 53⟩ : Room)) (fun aa_ UU_ => aa_ = #[.ref x, .int 2] ∧ Z.Warmed39 UU_.vm ∧ UU_.heap = h0) (fun _ _ _ _ _ => True) (fun _ UU_ oo_ UV_ => ∃ vv_ LL_, oo_ = .returned vv_ ∧ Q_rmD_2_2 Z zC vF hvF x t kB c0 c1 h0 n0 vv_ UV_.heap LL_ ∧ FrameEnd UU_ oo_ UV_ LL_ (⟨4, 0, 0, 53⟩ : Room).cells (⟨4, 0, 0, 53⟩ : Room).slots) := by
 refine MetFree.of_bodySF (plainFor_of_name own_pn_com_example_vestledger_vestledger_journal_JournalDecimals) hisR ?_
 intro p e s m args below meth c s₁ Bd hml0 hP hK
 obtain ⟨rfl, hZ, hh⟩ := hP
 have hx := Bd.exec
 have hby := Bd.bytes
 have hml : c.maxLocals = 3 := hml0
 have hown : s.vm.findClass "com/example/vestledger/vestledger/journal/JournalDecimals" = some m.cls := findClass_of_methodNamed Bd.named
 have hnm := (name_of_methodNamed Bd.named Bd.method).1
 have X0 : Stand p l e (⟨4, 0, 0, 53⟩ : Room) s m #[.ref x, .int 2] below meth c s₁ [] 0 0 := Stand.of_body Bd
 have e0 : s₁.heap = h0 := by rw [← hh, Bd.state]; rfl
 have N0 := Fr.nil n0
 have hn0 : Z.heap.size = n0 := O0.1
 have KT0 : Keep h0 h0 [] := Keep.refl _ _
 refine own_enter (Φ := fun oo_ UV_ => ∃ vv_ LL_, oo_ = .returned vv_ ∧ Q_rmD_2_2 Z zC vF hvF x t kB c0 c1 h0 n0 vv_ UV_.heap LL_ ∧ FrameEnd s oo_ UV_ LL_ (⟨4, 0, 0, 53⟩ : Room).cells (⟨4, 0, 0, 53⟩ : Room).slots) (own_ef_rmD_2_2 m x (2 : Int32)) ?_
 refine own_by (T' := s₁) (g' := (mkF m 1 #[.val (.ref x), .val (.int 2), .unset] [.int 2])) (fun _ kt_ => XS.iloadN X0.here hx rfl (hb hby own_d6_0) rfl kt_) ?_
 refine own_by (T' := s₁) (g' := (mkF m 2 #[.val (.ref x), .val (.int 2), .val (.int 2)] [])) (fun _ kt_ => XS.istoreN X0.here hx rfl (hb hby own_d6_1) rfl (l' := #[.val (.ref x), .val (.int 2), .val (.int 2)]) rfl kt_) ?_
 refine own_by (T' := s₁) (g' := (mkF m 3 #[.val (.ref x), .val (.int 2), .val (.int 2)] [.int 2])) (fun _ kt_ => XS.iloadN X0.here hx rfl (hb hby own_d6_2) rfl kt_) ?_
 refine own_by (T' := s₁) (g' := (mkF m 4 #[.val (.ref x), .val (.int 2), .val (.int 2)] [.ref x, .int 2])) (fun _ kt_ => XS.aloadN X0.here hx rfl (hb hby own_d6_3) rfl rfl kt_) ?_
 obtain ⟨cq1, kq1, q1a, q1b, q1c⟩ := isOf hZ e0 E_x
 obtain ⟨_, _, ⟨T1, L1, k1, n1⟩, -, X1, ⟨Lc1, hQ1, l1, y1, z1⟩, st1⟩ := X0.virtualBack hx (y := (⟨"java/lang/String", "length", "()I"⟩ : MethodName)) (z := (⟨"java/lang/String", "length", "()I"⟩ : MethodName)) hown (mvT hZ (ww hw 33 rfl)) (mvT hZ (ww hw 34 rfl)) (notFace_of_selects (args := #[]) (mvT hZ (ww hw 36 rfl))) (mvT hZ (ww hw 36 rfl)) (mvT hZ (ww hw 35 rfl)) (by decide) (backOf (W := 1) (rmLen_2 l Z a0 hw [] zC vF hvF GS x t kB c0 c1 h0 n0 (by omega) O0 E_x Fv Fc Vt) hZ (ww hw 37 rfl) (ww hw 9 rfl) (by decide) (by decide)) q1a q1c (g := (mkF m 4 #[.val (.ref x), .val (.int 2), .val (.int 2)] [.ref x, .int 2])) rfl (by rw [hml]; rfl) (Steps.refl _) (argsL := []) (rest := [.int 2]) (lenOf own_pd_10 rfl) rfl (by show 2 * 0 + _ ≤ _; exact Nat.le_of_eq rfl) (hb hby own_d6_4) (fun _ _ => ⟨rfl, e0, (by decide : 0 + 0 ≤ _), (by decide : 0 + 0 ≤ _)⟩)
 dsimp only [Pt.U, Pt.locs, Pt.cells, Pt.slots] at X1 l1 y1 z1 st1 hQ1
 subst l1 y1 z1
 obtain ⟨rfl, N1q, e1⟩ := hQ1
 have N2 := Fr.app N0 N1q
 refine own_by (T' := T1) (g' := (mkF m 7 #[.val (.ref x), .val (.int 2), .val (.int 2)] [.int 2, .int 2])) (fun _ kt_ => st1.trans kt_) ?_
 refine own_by (T' := T1) (g' := (mkF m 36 #[.val (.ref x), .val (.int 2), .val (.int 2)] [])) (fun _ kt_ => XS.icmpYes X1.here hx rfl (pc0 := 7) (pc' := 36) rfl (hb hby own_d6_7) rfl (XT.ii_ge_t (by decide)) (by decide) (by decide) kt_) ?_
 refine own_by (T' := T1) (g' := (mkF m 37 #[.val (.ref x), .val (.int 2), .val (.int 2)] [.int 2])) (fun _ kt_ => XS.iloadN X1.here hx rfl (hb hby own_d6_36) rfl kt_) ?_
 refine own_by (T' := T1) (g' := (mkF m 38 #[.val (.ref x), .val (.int 2), .val (.int 2)] [.int 2, .int 2])) (fun _ kt_ => XS.iloadN X1.here hx rfl (hb hby own_d6_37) rfl kt_) ?_
 refine own_by (T' := T1) (g' := (mkF m 39 #[.val (.ref x), .val (.int 2), .val (.int 2)] [(.int ((2 : Int32) - (2 : Int32)))])) (fun _ kt_ => XS.isub X1.here hx rfl (hb hby own_d6_38) rfl kt_) ?_
 rw [show ((2 : Int32) - (2 : Int32)) = (0 : Int32) from by decide]
 obtain ⟨fs3, hr3, hrun3, hended3, hW3, hsame3⟩ := X1.leave (v := some (.int 0)) (fun h => by rw [Bd.returns] at h; cases h)
 refine ⟨_, _, retOut X1 hx (t := .int) Bd.returns rfl (Or.inl ⟨rfl, Or.inl rfl, _, rfl⟩) (hb hby own_d6_39) hr3, hrun3, hended3, _, _, rfl, ?_, ⟨_, rfl⟩, hW3, hsame3.mono (by decide) (by decide)⟩
 show Q_rmD_2_2 Z zC vF hvF x t kB c0 c1 h0 n0 _ T1.heap _
 exact ⟨rfl, N2, e1⟩
theorem own_ef_rmD_3_3 (m : MethodId) (x0 : Addr) (x1 : Int32) : entryFrame m #[.ref x0, .int x1] 3 = mkF m 0 #[.val (.ref x0), .val (.int x1), .unset] [] := by first | (simp [entryFrame, mkF, argsToLocals, Value.category]; done) | rfl
def Q_rmD_3_3 (Z : State) (zC : Int32) (vF : Value) (hvF : vF.isRef = true) (x : Addr) (t : Addr) (kB : ClassId) (c0 : Int32) (c1 : Int32) (c2 : Int32) (h0 : Heap) (n0 : Nat) (vv_ : Option Value) (hh_ : Heap) (LL_ : List Loc) : Prop := vv_ = some (.int 0) ∧ Fr n0 LL_ ∧ hh_ = h0
set_option maxRecDepth 65536 in
set_option maxHeartbeats 40000000 in
theorem rmD_3_3 (l : Launch) (Z : State) (a0 : Array Value) (hw : ∀ d ∈ tables_1, d.before a0 Z = true) (ws : List Jvm.Cond) (zC : Int32) (vF : Value) (hvF : vF.isRef = true) (GS : Glob Z zC vF hvF) (x : Addr) (t : Addr) (kB : ClassId) (c0 : Int32) (c1 : Int32) (c2 : Int32) (h0 : Heap) (n0 : Nat) (Z0 : n0 ≤ h0.size) (O0 : Old Z n0 h0) (E_x : Exa Z h0 x "java/lang/String") (Fv : Fld Z h0 x "java/lang/String" "value" "[B" (.ref t)) (Fc : Fld Z h0 x "java/lang/String" "coder" "B" (.int 0)) (Vt : Arv Z h0 t kB .byte (3 : Int32) [(.int c0.toInt8.toInt32), (.int c1.toInt8.toInt32), (.int c2.toInt8.toInt32)] (.int 0)) (ok0 : okF c0) (ok1 : okF c1) (ok2 : okF c2) :
  MetFree l (⟨"com/example/vestledger/vestledger/journal/JournalDecimals", "digitsFrom", "(Ljava/lang/String;I)I"⟩ : MethodName) (head1 (Jvm.Cond.code (⟨"com/example/vestledger/vestledger/journal/JournalDecimals", "digitsFrom", "(Ljava/lang/String;I)I"⟩ : MethodName) prog_21_method_5_code 3 (some .int) :: ws) (⟨4, 0, 0, 53⟩ : Room)) (fun aa_ UU_ => aa_ = #[.ref x, .int 3] ∧ Z.Warmed39 UU_.vm ∧ UU_.heap = h0) (fun _ _ _ _ _ => True) (fun _ UU_ oo_ UV_ => ∃ vv_ LL_, oo_ = .returned vv_ ∧ Q_rmD_3_3 Z zC vF hvF x t kB c0 c1 c2 h0 n0 vv_ UV_.heap LL_ ∧ FrameEnd UU_ oo_ UV_ LL_ (⟨4, 0, 0, 53⟩ : Room).cells (⟨4, 0, 0, 53⟩ : Room).slots) := by
 refine MetFree.of_bodySF (plainFor_of_name own_pn_com_example_vestledger_vestledger_journal_JournalDecimals) hisR ?_
 intro p e s m args below meth c s₁ Bd hml0 hP hK
 obtain ⟨rfl, hZ, hh⟩ := hP
 have hx := Bd.exec
 have hby := Bd.bytes
 have hml : c.maxLocals = 3 := hml0
 have hown : s.vm.findClass "com/example/vestledger/vestledger/journal/JournalDecimals" = some m.cls := findClass_of_methodNamed Bd.named
 have hnm := (name_of_methodNamed Bd.named Bd.method).1
 have X0 : Stand p l e (⟨4, 0, 0, 53⟩ : Room) s m #[.ref x, .int 3] below meth c s₁ [] 0 0 := Stand.of_body Bd
 have e0 : s₁.heap = h0 := by rw [← hh, Bd.state]; rfl
 have N0 := Fr.nil n0
 have hn0 : Z.heap.size = n0 := O0.1
 have KT0 : Keep h0 h0 [] := Keep.refl _ _
 refine own_enter (Φ := fun oo_ UV_ => ∃ vv_ LL_, oo_ = .returned vv_ ∧ Q_rmD_3_3 Z zC vF hvF x t kB c0 c1 c2 h0 n0 vv_ UV_.heap LL_ ∧ FrameEnd s oo_ UV_ LL_ (⟨4, 0, 0, 53⟩ : Room).cells (⟨4, 0, 0, 53⟩ : Room).slots) (own_ef_rmD_3_3 m x (3 : Int32)) ?_
 refine own_by (T' := s₁) (g' := (mkF m 1 #[.val (.ref x), .val (.int 3), .unset] [.int 3])) (fun _ kt_ => XS.iloadN X0.here hx rfl (hb hby own_d6_0) rfl kt_) ?_
 refine own_by (T' := s₁) (g' := (mkF m 2 #[.val (.ref x), .val (.int 3), .val (.int 3)] [])) (fun _ kt_ => XS.istoreN X0.here hx rfl (hb hby own_d6_1) rfl (l' := #[.val (.ref x), .val (.int 3), .val (.int 3)]) rfl kt_) ?_
 refine own_by (T' := s₁) (g' := (mkF m 3 #[.val (.ref x), .val (.int 3), .val (.int 3)] [.int 3])) (fun _ kt_ => XS.iloadN X0.here hx rfl (hb hby own_d6_2) rfl kt_) ?_
 refine own_by (T' := s₁) (g' := (mkF m 4 #[.val (.ref x), .val (.int 3), .val (.int 3)] [.ref x, .int 3])) (fun _ kt_ => XS.aloadN X0.here hx rfl (hb hby own_d6_3) rfl rfl kt_) ?_
 obtain ⟨cq1, kq1, q1a, q1b, q1c⟩ := isOf hZ e0 E_x
 obtain ⟨_, _, ⟨T1, L1, k1, n1⟩, -, X1, ⟨Lc1, hQ1, l1, y1, z1⟩, st1⟩ := X0.virtualBack hx (y := (⟨"java/lang/String", "length", "()I"⟩ : MethodName)) (z := (⟨"java/lang/String", "length", "()I"⟩ : MethodName)) hown (mvT hZ (ww hw 33 rfl)) (mvT hZ (ww hw 34 rfl)) (notFace_of_selects (args := #[]) (mvT hZ (ww hw 36 rfl))) (mvT hZ (ww hw 36 rfl)) (mvT hZ (ww hw 35 rfl)) (by decide) (backOf (W := 1) (rmLen_3 l Z a0 hw [] zC vF hvF GS x t kB c0 c1 c2 h0 n0 (by omega) O0 E_x Fv Fc Vt) hZ (ww hw 37 rfl) (ww hw 9 rfl) (by decide) (by decide)) q1a q1c (g := (mkF m 4 #[.val (.ref x), .val (.int 3), .val (.int 3)] [.ref x, .int 3])) rfl (by rw [hml]; rfl) (Steps.refl _) (argsL := []) (rest := [.int 3]) (lenOf own_pd_10 rfl) rfl (by show 2 * 0 + _ ≤ _; exact Nat.le_of_eq rfl) (hb hby own_d6_4) (fun _ _ => ⟨rfl, e0, (by decide : 0 + 0 ≤ _), (by decide : 0 + 0 ≤ _)⟩)
 dsimp only [Pt.U, Pt.locs, Pt.cells, Pt.slots] at X1 l1 y1 z1 st1 hQ1
 subst l1 y1 z1
 obtain ⟨rfl, N1q, e1⟩ := hQ1
 have N2 := Fr.app N0 N1q
 refine own_by (T' := T1) (g' := (mkF m 7 #[.val (.ref x), .val (.int 3), .val (.int 3)] [.int 3, .int 3])) (fun _ kt_ => st1.trans kt_) ?_
 refine own_by (T' := T1) (g' := (mkF m 36 #[.val (.ref x), .val (.int 3), .val (.int 3)] [])) (fun _ kt_ => XS.icmpYes X1.here hx rfl (pc0 := 7) (pc' := 36) rfl (hb hby own_d6_7) rfl (XT.ii_ge_t (by decide)) (by decide) (by decide) kt_) ?_
 refine own_by (T' := T1) (g' := (mkF m 37 #[.val (.ref x), .val (.int 3), .val (.int 3)] [.int 3])) (fun _ kt_ => XS.iloadN X1.here hx rfl (hb hby own_d6_36) rfl kt_) ?_
 refine own_by (T' := T1) (g' := (mkF m 38 #[.val (.ref x), .val (.int 3), .val (.int 3)] [.int 3, .int 3])) (fun _ kt_ => XS.iloadN X1.here hx rfl (hb hby own_d6_37) rfl kt_) ?_
 refine own_by (T' := T1) (g' := (mkF m 39 #[.val (.ref x), .val (.int 3), .val (.int 3)] [(.int ((3 : Int32) - (3 : Int32)))])) (fun _ kt_ => XS.isub X1.here hx rfl (hb hby own_d6_38) rfl kt_) ?_
 rw [show ((3 : Int32) - (3 : Int32)) = (0 : Int32) from by decide]
 obtain ⟨fs3, hr3, hrun3, hended3, hW3, hsame3⟩ := X1.leave (v := some (.int 0)) (fun h => by rw [Bd.returns] at h; cases h)
 refine ⟨_, _, retOut X1 hx (t := .int) Bd.returns rfl (Or.inl ⟨rfl, Or.inl rfl, _, rfl⟩) (hb hby own_d6_39) hr3, hrun3, hended3, _, _, rfl, ?_, ⟨_, rfl⟩, hW3, hsame3.mono (by decide) (by decide)⟩
 show Q_rmD_3_3 Z zC vF hvF x t kB c0 c1 c2 h0 n0 _ T1.heap _
 exact ⟨rfl, N2, e1⟩
theorem own_ef_rmD_4_4 (m : MethodId) (x0 : Addr) (x1 : Int32) : entryFrame m #[.ref x0, .int x1] 3 = mkF m 0 #[.val (.ref x0), .val (.int x1), .unset] [] := by first | (simp [entryFrame, mkF, argsToLocals, Value.category]; done) | rfl
def Q_rmD_4_4 (Z : State) (zC : Int32) (vF : Value) (hvF : vF.isRef = true) (x : Addr) (t : Addr) (kB : ClassId) (c0 : Int32) (c1 : Int32) (c2 : Int32) (c3 : Int32) (h0 : Heap) (n0 : Nat) (vv_ : Option Value) (hh_ : Heap) (LL_ : List Loc) : Prop := vv_ = some (.int 0) ∧ Fr n0 LL_ ∧ hh_ = h0
set_option maxRecDepth 65536 in
set_option maxHeartbeats 40000000 in
theorem rmD_4_4 (l : Launch) (Z : State) (a0 : Array Value) (hw : ∀ d ∈ tables_1, d.before a0 Z = true) (ws : List Jvm.Cond) (zC : Int32) (vF : Value) (hvF : vF.isRef = true) (GS : Glob Z zC vF hvF) (x : Addr) (t : Addr) (kB : ClassId) (c0 : Int32) (c1 : Int32) (c2 : Int32) (c3 : Int32) (h0 : Heap) (n0 : Nat) (Z0 : n0 ≤ h0.size) (O0 : Old Z n0 h0) (E_x : Exa Z h0 x "java/lang/String") (Fv : Fld Z h0 x "java/lang/String" "value" "[B" (.ref t)) (Fc : Fld Z h0 x "java/lang/String" "coder" "B" (.int 0)) (Vt : Arv Z h0 t kB .byte (4 : Int32) [(.int c0.toInt8.toInt32), (.int c1.toInt8.toInt32), (.int c2.toInt8.toInt32), (.int c3.toInt8.toInt32)] (.int 0)) (ok0 : okF c0) (ok1 : okF c1) (ok2 : okF c2) (ok3 : okF c3) :
  MetFree l (⟨"com/example/vestledger/vestledger/journal/JournalDecimals", "digitsFrom", "(Ljava/lang/String;I)I"⟩ : MethodName) (head1 (Jvm.Cond.code (⟨"com/example/vestledger/vestledger/journal/JournalDecimals", "digitsFrom", "(Ljava/lang/String;I)I"⟩ : MethodName) prog_21_method_5_code 3 (some .int) :: ws) (⟨4, 0, 0, 53⟩ : Room)) (fun aa_ UU_ => aa_ = #[.ref x, .int 4] ∧ Z.Warmed39 UU_.vm ∧ UU_.heap = h0) (fun _ _ _ _ _ => True) (fun _ UU_ oo_ UV_ => ∃ vv_ LL_, oo_ = .returned vv_ ∧ Q_rmD_4_4 Z zC vF hvF x t kB c0 c1 c2 c3 h0 n0 vv_ UV_.heap LL_ ∧ FrameEnd UU_ oo_ UV_ LL_ (⟨4, 0, 0, 53⟩ : Room).cells (⟨4, 0, 0, 53⟩ : Room).slots) := by
 refine MetFree.of_bodySF (plainFor_of_name own_pn_com_example_vestledger_vestledger_journal_JournalDecimals) hisR ?_
 intro p e s m args below meth c s₁ Bd hml0 hP hK
 obtain ⟨rfl, hZ, hh⟩ := hP
 have hx := Bd.exec
 have hby := Bd.bytes
 have hml : c.maxLocals = 3 := hml0
 have hown : s.vm.findClass "com/example/vestledger/vestledger/journal/JournalDecimals" = some m.cls := findClass_of_methodNamed Bd.named
 have hnm := (name_of_methodNamed Bd.named Bd.method).1
 have X0 : Stand p l e (⟨4, 0, 0, 53⟩ : Room) s m #[.ref x, .int 4] below meth c s₁ [] 0 0 := Stand.of_body Bd
 have e0 : s₁.heap = h0 := by rw [← hh, Bd.state]; rfl
 have N0 := Fr.nil n0
 have hn0 : Z.heap.size = n0 := O0.1
 have KT0 : Keep h0 h0 [] := Keep.refl _ _
 refine own_enter (Φ := fun oo_ UV_ => ∃ vv_ LL_, oo_ = .returned vv_ ∧ Q_rmD_4_4 Z zC vF hvF x t kB c0 c1 c2 c3 h0 n0 vv_ UV_.heap LL_ ∧ FrameEnd s oo_ UV_ LL_ (⟨4, 0, 0, 53⟩ : Room).cells (⟨4, 0, 0, 53⟩ : Room).slots) (own_ef_rmD_4_4 m x (4 : Int32)) ?_
 refine own_by (T' := s₁) (g' := (mkF m 1 #[.val (.ref x), .val (.int 4), .unset] [.int 4])) (fun _ kt_ => XS.iloadN X0.here hx rfl (hb hby own_d6_0) rfl kt_) ?_
 refine own_by (T' := s₁) (g' := (mkF m 2 #[.val (.ref x), .val (.int 4), .val (.int 4)] [])) (fun _ kt_ => XS.istoreN X0.here hx rfl (hb hby own_d6_1) rfl (l' := #[.val (.ref x), .val (.int 4), .val (.int 4)]) rfl kt_) ?_
 refine own_by (T' := s₁) (g' := (mkF m 3 #[.val (.ref x), .val (.int 4), .val (.int 4)] [.int 4])) (fun _ kt_ => XS.iloadN X0.here hx rfl (hb hby own_d6_2) rfl kt_) ?_
 refine own_by (T' := s₁) (g' := (mkF m 4 #[.val (.ref x), .val (.int 4), .val (.int 4)] [.ref x, .int 4])) (fun _ kt_ => XS.aloadN X0.here hx rfl (hb hby own_d6_3) rfl rfl kt_) ?_
 obtain ⟨cq1, kq1, q1a, q1b, q1c⟩ := isOf hZ e0 E_x
 obtain ⟨_, _, ⟨T1, L1, k1, n1⟩, -, X1, ⟨Lc1, hQ1, l1, y1, z1⟩, st1⟩ := X0.virtualBack hx (y := (⟨"java/lang/String", "length", "()I"⟩ : MethodName)) (z := (⟨"java/lang/String", "length", "()I"⟩ : MethodName)) hown (mvT hZ (ww hw 33 rfl)) (mvT hZ (ww hw 34 rfl)) (notFace_of_selects (args := #[]) (mvT hZ (ww hw 36 rfl))) (mvT hZ (ww hw 36 rfl)) (mvT hZ (ww hw 35 rfl)) (by decide) (backOf (W := 1) (rmLen_4 l Z a0 hw [] zC vF hvF GS x t kB c0 c1 c2 c3 h0 n0 (by omega) O0 E_x Fv Fc Vt) hZ (ww hw 37 rfl) (ww hw 9 rfl) (by decide) (by decide)) q1a q1c (g := (mkF m 4 #[.val (.ref x), .val (.int 4), .val (.int 4)] [.ref x, .int 4])) rfl (by rw [hml]; rfl) (Steps.refl _) (argsL := []) (rest := [.int 4]) (lenOf own_pd_10 rfl) rfl (by show 2 * 0 + _ ≤ _; exact Nat.le_of_eq rfl) (hb hby own_d6_4) (fun _ _ => ⟨rfl, e0, (by decide : 0 + 0 ≤ _), (by decide : 0 + 0 ≤ _)⟩)
 dsimp only [Pt.U, Pt.locs, Pt.cells, Pt.slots] at X1 l1 y1 z1 st1 hQ1
 subst l1 y1 z1
 obtain ⟨rfl, N1q, e1⟩ := hQ1
 have N2 := Fr.app N0 N1q
 refine own_by (T' := T1) (g' := (mkF m 7 #[.val (.ref x), .val (.int 4), .val (.int 4)] [.int 4, .int 4])) (fun _ kt_ => st1.trans kt_) ?_
 refine own_by (T' := T1) (g' := (mkF m 36 #[.val (.ref x), .val (.int 4), .val (.int 4)] [])) (fun _ kt_ => XS.icmpYes X1.here hx rfl (pc0 := 7) (pc' := 36) rfl (hb hby own_d6_7) rfl (XT.ii_ge_t (by decide)) (by decide) (by decide) kt_) ?_
 refine own_by (T' := T1) (g' := (mkF m 37 #[.val (.ref x), .val (.int 4), .val (.int 4)] [.int 4])) (fun _ kt_ => XS.iloadN X1.here hx rfl (hb hby own_d6_36) rfl kt_) ?_
 refine own_by (T' := T1) (g' := (mkF m 38 #[.val (.ref x), .val (.int 4), .val (.int 4)] [.int 4, .int 4])) (fun _ kt_ => XS.iloadN X1.here hx rfl (hb hby own_d6_37) rfl kt_) ?_
 refine own_by (T' := T1) (g' := (mkF m 39 #[.val (.ref x), .val (.int 4), .val (.int 4)] [(.int ((4 : Int32) - (4 : Int32)))])) (fun _ kt_ => XS.isub X1.here hx rfl (hb hby own_d6_38) rfl kt_) ?_
 rw [show ((4 : Int32) - (4 : Int32)) = (0 : Int32) from by decide]
 obtain ⟨fs3, hr3, hrun3, hended3, hW3, hsame3⟩ := X1.leave (v := some (.int 0)) (fun h => by rw [Bd.returns] at h; cases h)
 refine ⟨_, _, retOut X1 hx (t := .int) Bd.returns rfl (Or.inl ⟨rfl, Or.inl rfl, _, rfl⟩) (hb hby own_d6_39) hr3, hrun3, hended3, _, _, rfl, ?_, ⟨_, rfl⟩, hW3, hsame3.mono (by decide) (by decide)⟩
 show Q_rmD_4_4 Z zC vF hvF x t kB c0 c1 c2 c3 h0 n0 _ T1.heap _
 exact ⟨rfl, N2, e1⟩
def Q_rmDG (Z : State) (zC : Int32) (vF : Value) (hvF : vF.isRef = true) (x : Addr) (t : Addr) (kB : ClassId) (nn : Int32) (fr : Int32) (c0 : Int32) (c1 : Int32) (c2 : Int32) (c3 : Int32) (h0 : Heap) (n0 : Nat) (vv_ : Option Value) (hh_ : Heap) (LL_ : List Loc) : Prop := vv_ = some (.int (runF nn fr c0 c1 c2 c3)) ∧ Fr n0 LL_ ∧ hh_ = h0
set_option maxRecDepth 65536 in
set_option maxHeartbeats 40000000 in
theorem rmDG (l : Launch) (Z : State) (a0 : Array Value) (hw : ∀ d ∈ tables_1, d.before a0 Z = true) (ws : List Jvm.Cond) (zC : Int32) (vF : Value) (hvF : vF.isRef = true) (GS : Glob Z zC vF hvF) (x : Addr) (t : Addr) (kB : ClassId) (nn : Int32) (fr : Int32) (c0 : Int32) (c1 : Int32) (c2 : Int32) (c3 : Int32) (h0 : Heap) (n0 : Nat) (Z0 : n0 ≤ h0.size) (O0 : Old Z n0 h0) (E_x : Exa Z h0 x "java/lang/String") (Fv : Fld Z h0 x "java/lang/String" "value" "[B" (.ref t)) (Fc : Fld Z h0 x "java/lang/String" "coder" "B" (.int 0)) (Vt : Arv Z h0 t kB .byte nn (bF nn c0 c1 c2 c3) (.int 0)) (hnf : ((nn = (0 : Int32) ∧ fr = (0 : Int32)) ∨ (nn = (1 : Int32) ∧ fr = (0 : Int32)) ∨ (nn = (1 : Int32) ∧ fr = (1 : Int32)) ∨ (nn = (2 : Int32) ∧ fr = (0 : Int32)) ∨ (nn = (2 : Int32) ∧ fr = (1 : Int32)) ∨ (nn = (2 : Int32) ∧ fr = (2 : Int32)) ∨ (nn = (3 : Int32) ∧ fr = (0 : Int32)) ∨ (nn = (3 : Int32) ∧ fr = (1 : Int32)) ∨ (nn = (3 : Int32) ∧ fr = (2 : Int32)) ∨ (nn = (3 : Int32) ∧ fr = (3 : Int32)) ∨ (nn = (4 : Int32) ∧ fr = (0 : Int32)) ∨ (nn = (4 : Int32) ∧ fr = (1 : Int32)) ∨ (nn = (4 : Int32) ∧ fr = (2 : Int32)) ∨ (nn = (4 : Int32) ∧ fr = (3 : Int32)) ∨ (nn = (4 : Int32) ∧ fr = (4 : Int32)))) (ok0 : okF c0) (ok1 : okF c1) (ok2 : okF c2) (ok3 : okF c3) :
  MetFree l (⟨"com/example/vestledger/vestledger/journal/JournalDecimals", "digitsFrom", "(Ljava/lang/String;I)I"⟩ : MethodName) (head1 (Jvm.Cond.code (⟨"com/example/vestledger/vestledger/journal/JournalDecimals", "digitsFrom", "(Ljava/lang/String;I)I"⟩ : MethodName) prog_21_method_5_code 3 (some .int) :: ws) (⟨4, 0, 0, 53⟩ : Room)) (fun aa_ UU_ => aa_ = #[.ref x, .int fr] ∧ Z.Warmed39 UU_.vm ∧ UU_.heap = h0) (fun _ _ _ _ _ => True) (fun _ UU_ oo_ UV_ => ∃ vv_ LL_, oo_ = .returned vv_ ∧ Q_rmDG Z zC vF hvF x t kB nn fr c0 c1 c2 c3 h0 n0 vv_ UV_.heap LL_ ∧ FrameEnd UU_ oo_ UV_ LL_ (⟨4, 0, 0, 53⟩ : Room).cells (⟨4, 0, 0, 53⟩ : Room).slots) := by
 rcases hnf with ⟨rfl, rfl⟩ | ⟨rfl, rfl⟩ | ⟨rfl, rfl⟩ | ⟨rfl, rfl⟩ | ⟨rfl, rfl⟩ | ⟨rfl, rfl⟩ | ⟨rfl, rfl⟩ | ⟨rfl, rfl⟩ | ⟨rfl, rfl⟩ | ⟨rfl, rfl⟩ | ⟨rfl, rfl⟩ | ⟨rfl, rfl⟩ | ⟨rfl, rfl⟩ | ⟨rfl, rfl⟩ | ⟨rfl, rfl⟩
 ·rw [own_bF0] at Vt; unfold Q_rmDG; rw [own_run_0_0]; exact rmD_0_0 l Z a0 hw ws zC vF hvF GS x t kB  h0 n0 Z0 O0 E_x Fv Fc Vt 
 ·rw [own_bF1] at Vt; unfold Q_rmDG; rw [own_run_1_0]; exact rmD_1_0 l Z a0 hw ws zC vF hvF GS x t kB c0 h0 n0 Z0 O0 E_x Fv Fc Vt ok0
 ·rw [own_bF1] at Vt; unfold Q_rmDG; rw [own_run_1_1]; exact rmD_1_1 l Z a0 hw ws zC vF hvF GS x t kB c0 h0 n0 Z0 O0 E_x Fv Fc Vt ok0
 ·rw [own_bF2] at Vt; unfold Q_rmDG; rw [own_run_2_0]; exact rmD_2_0 l Z a0 hw ws zC vF hvF GS x t kB c0 c1 h0 n0 Z0 O0 E_x Fv Fc Vt ok0 ok1
 ·rw [own_bF2] at Vt; unfold Q_rmDG; rw [own_run_2_1]; exact rmD_2_1 l Z a0 hw ws zC vF hvF GS x t kB c0 c1 h0 n0 Z0 O0 E_x Fv Fc Vt ok0 ok1
 ·rw [own_bF2] at Vt; unfold Q_rmDG; rw [own_run_2_2]; exact rmD_2_2 l Z a0 hw ws zC vF hvF GS x t kB c0 c1 h0 n0 Z0 O0 E_x Fv Fc Vt ok0 ok1
 ·rw [own_bF3] at Vt; unfold Q_rmDG; rw [own_run_3_0]; exact rmD_3_0 l Z a0 hw ws zC vF hvF GS x t kB c0 c1 c2 h0 n0 Z0 O0 E_x Fv Fc Vt ok0 ok1 ok2
 ·rw [own_bF3] at Vt; unfold Q_rmDG; rw [own_run_3_1]; exact rmD_3_1 l Z a0 hw ws zC vF hvF GS x t kB c0 c1 c2 h0 n0 Z0 O0 E_x Fv Fc Vt ok0 ok1 ok2
 ·rw [own_bF3] at Vt; unfold Q_rmDG; rw [own_run_3_2]; exact rmD_3_2 l Z a0 hw ws zC vF hvF GS x t kB c0 c1 c2 h0 n0 Z0 O0 E_x Fv Fc Vt ok0 ok1 ok2
 ·rw [own_bF3] at Vt; unfold Q_rmDG; rw [own_run_3_3]; exact rmD_3_3 l Z a0 hw ws zC vF hvF GS x t kB c0 c1 c2 h0 n0 Z0 O0 E_x Fv Fc Vt ok0 ok1 ok2
 ·rw [own_bF4] at Vt; unfold Q_rmDG; rw [own_run_4_0]; exact rmD_4_0 l Z a0 hw ws zC vF hvF GS x t kB c0 c1 c2 c3 h0 n0 Z0 O0 E_x Fv Fc Vt ok0 ok1 ok2 ok3
 ·rw [own_bF4] at Vt; unfold Q_rmDG; rw [own_run_4_1]; exact rmD_4_1 l Z a0 hw ws zC vF hvF GS x t kB c0 c1 c2 c3 h0 n0 Z0 O0 E_x Fv Fc Vt ok0 ok1 ok2 ok3
 ·rw [own_bF4] at Vt; unfold Q_rmDG; rw [own_run_4_2]; exact rmD_4_2 l Z a0 hw ws zC vF hvF GS x t kB c0 c1 c2 c3 h0 n0 Z0 O0 E_x Fv Fc Vt ok0 ok1 ok2 ok3
 ·rw [own_bF4] at Vt; unfold Q_rmDG; rw [own_run_4_3]; exact rmD_4_3 l Z a0 hw ws zC vF hvF GS x t kB c0 c1 c2 c3 h0 n0 Z0 O0 E_x Fv Fc Vt ok0 ok1 ok2 ok3
 ·rw [own_bF4] at Vt; unfold Q_rmDG; rw [own_run_4_4]; exact rmD_4_4 l Z a0 hw ws zC vF hvF GS x t kB c0 c1 c2 c3 h0 n0 Z0 O0 E_x Fv Fc Vt ok0 ok1 ok2 ok3
theorem own_d1_0 : decode method_4_code 0 = .ok (.iload_n 0, 1) := by decide +kernel
theorem own_d1_1 : decode method_4_code 1 = .ok (.sipush 256, 3) := by decide +kernel
theorem own_d1_4 : decode method_4_code 4 = .ok (.iand, 1) := by decide +kernel
theorem own_d1_5 : decode method_4_code 5 = .ok (.ifCond .eq 15, 3) := by decide +kernel
theorem own_d1_8 : decode method_4_code 8 = .ok (.bipush 48, 2) := by decide +kernel
theorem own_d1_10 : decode method_4_code 10 = .ok (.iload_n 0, 1) := by decide +kernel
theorem own_d1_11 : decode method_4_code 11 = .ok (.bipush 9, 2) := by decide +kernel
theorem own_d1_13 : decode method_4_code 13 = .ok (.iushr, 1) := by decide +kernel
theorem own_d1_14 : decode method_4_code 14 = .ok (.bipush 10, 2) := by decide +kernel
theorem own_d1_16 : decode method_4_code 16 = .ok (.irem, 1) := by decide +kernel
theorem own_d1_17 : decode method_4_code 17 = .ok (.iadd, 1) := by decide +kernel
theorem own_d1_18 : decode method_4_code 18 = .ok (.i2c, 1) := by decide +kernel
theorem own_d1_19 : decode method_4_code 19 = .ok (.ireturn, 1) := by decide +kernel
theorem own_d1_20 : decode method_4_code 20 = .ok (.iload_n 0, 1) := by decide +kernel
theorem own_d1_21 : decode method_4_code 21 = .ok (.sipush 255, 3) := by decide +kernel
theorem own_d1_24 : decode method_4_code 24 = .ok (.iand, 1) := by decide +kernel
theorem own_d1_25 : decode method_4_code 25 = .ok (.i2c, 1) := by decide +kernel
theorem own_d1_26 : decode method_4_code 26 = .ok (.ireturn, 1) := by decide +kernel
theorem own_ef_rmPick (m : MethodId) (x0 : Int32) : entryFrame m #[.int x0] 1 = mkF m 0 #[.val (.int x0)] [] := by first | (simp [entryFrame, mkF, argsToLocals, Value.category]; done) | rfl
def Q_rmPick (Z : State) (zC : Int32) (vF : Value) (hvF : vF.isRef = true) (n : Int32) (h0 : Heap) (n0 : Nat) (vv_ : Option Value) (hh_ : Heap) (LL_ : List Loc) : Prop := vv_ = some (.int (pickF n)) ∧ Fr n0 LL_ ∧ hh_ = h0
set_option maxRecDepth 65536 in
set_option maxHeartbeats 40000000 in
theorem rmPick (l : Launch) (Z : State) (a0 : Array Value) (hw : ∀ d ∈ tables_1, d.before a0 Z = true) (ws : List Jvm.Cond) (zC : Int32) (vF : Value) (hvF : vF.isRef = true) (GS : Glob Z zC vF hvF) (n : Int32) (h0 : Heap) (n0 : Nat) (Z0 : n0 ≤ h0.size) (O0 : Old Z n0 h0) :
  MetFree l (⟨"com/example/vestledger/vestledger/journal/JournalDecimalsDigitsFromPinLaw", "pick", "(I)C"⟩ : MethodName) (head1 (Jvm.Cond.code (⟨"com/example/vestledger/vestledger/journal/JournalDecimalsDigitsFromPinLaw", "pick", "(I)C"⟩ : MethodName) method_4_code 1 (some .char) :: ws) (⟨0, 0, 0, 0⟩ : Room)) (fun aa_ UU_ => aa_ = #[.int n] ∧ Z.Warmed39 UU_.vm ∧ UU_.heap = h0) (fun _ _ _ _ _ => True) (fun _ UU_ oo_ UV_ => ∃ vv_ LL_, oo_ = .returned vv_ ∧ Q_rmPick Z zC vF hvF n h0 n0 vv_ UV_.heap LL_ ∧ FrameEnd UU_ oo_ UV_ LL_ (⟨0, 0, 0, 0⟩ : Room).cells (⟨0, 0, 0, 0⟩ : Room).slots) := by
 refine MetFree.of_bodySF (plainFor_of_name own_pn_com_example_vestledger_vestledger_journal_JournalDecimalsDigitsFromPinLaw) hisR ?_
 intro p e s m args below meth c s₁ Bd hml0 hP hK
 obtain ⟨rfl, hZ, hh⟩ := hP
 have hx := Bd.exec
 have hby := Bd.bytes
 have hml : c.maxLocals = 1 := hml0
 have hown : s.vm.findClass "com/example/vestledger/vestledger/journal/JournalDecimalsDigitsFromPinLaw" = some m.cls := findClass_of_methodNamed Bd.named
 have hnm := (name_of_methodNamed Bd.named Bd.method).1
 have X0 : Stand p l e (⟨0, 0, 0, 0⟩ : Room) s m #[.int n] below meth c s₁ [] 0 0 := Stand.of_body Bd
 have e0 : s₁.heap = h0 := by rw [← hh, Bd.state]; rfl
 have N0 := Fr.nil n0
 have hn0 : Z.heap.size = n0 := O0.1
 have KT0 : Keep h0 h0 [] := Keep.refl _ _
 refine own_enter (Φ := fun oo_ UV_ => ∃ vv_ LL_, oo_ = .returned vv_ ∧ Q_rmPick Z zC vF hvF n h0 n0 vv_ UV_.heap LL_ ∧ FrameEnd s oo_ UV_ LL_ (⟨0, 0, 0, 0⟩ : Room).cells (⟨0, 0, 0, 0⟩ : Room).slots) (own_ef_rmPick m n) ?_
 refine own_by (T' := s₁) (g' := (mkF m 1 #[.val (.int n)] [.int n])) (fun _ kt_ => XS.iloadN X0.here hx rfl (hb hby own_d1_0) rfl kt_) ?_
 refine own_by (T' := s₁) (g' := (mkF m 4 #[.val (.int n)] [.int 256, .int n])) (fun _ kt_ => XS.sipush X0.here hx rfl (hb hby own_d1_1) kt_) ?_
 refine own_by (T' := s₁) (g' := (mkF m 5 #[.val (.int n)] [(.int (n &&& (256 : Int32)))])) (fun _ kt_ => XS.iand X0.here hx rfl (hb hby own_d1_4) rfl kt_) ?_
 by_cases hc1 : (n &&& (256 : Int32)) = (0 : Int32)
 ·refine own_by (T' := s₁) (g' := (mkF m 20 #[.val (.int n)] [])) (fun _ kt_ => XS.ifYes X0.here hx rfl (pc0 := 5) (pc' := 20) rfl (hb hby own_d1_5) rfl (XT.i0_eq_t hc1) (by decide) (by decide) kt_) ?_
  refine own_by (T' := s₁) (g' := (mkF m 21 #[.val (.int n)] [.int n])) (fun _ kt_ => XS.iloadN X0.here hx rfl (hb hby own_d1_20) rfl kt_) ?_
  refine own_by (T' := s₁) (g' := (mkF m 24 #[.val (.int n)] [.int 255, .int n])) (fun _ kt_ => XS.sipush X0.here hx rfl (hb hby own_d1_21) kt_) ?_
  refine own_by (T' := s₁) (g' := (mkF m 25 #[.val (.int n)] [(.int (n &&& (255 : Int32)))])) (fun _ kt_ => XS.iand X0.here hx rfl (hb hby own_d1_24) rfl kt_) ?_
  refine own_by (T' := s₁) (g' := (mkF m 26 #[.val (.int n)] [(.int (n &&& (255 : Int32)).toUInt32.toUInt16.toUInt32.toInt32)])) (fun _ kt_ => XS.i2c X0.here hx rfl (hb hby own_d1_25) rfl kt_) ?_
  have hn2 : nar .char ((n &&& (255 : Int32)).toUInt32.toUInt16.toUInt32.toInt32) = (n &&& (255 : Int32)).toUInt32.toUInt16.toUInt32.toInt32 := (own_narC _)
  have hr3 : (n &&& (255 : Int32)).toUInt32.toUInt16.toUInt32.toInt32 = (pickF n) := by simp [pickF, hc1]
  obtain ⟨fs4, hr4, hrun4, hended4, hW4, hsame4⟩ := X0.leave (v := some (.int (nar .char ((n &&& (255 : Int32)).toUInt32.toUInt16.toUInt32.toInt32)))) (fun h => by rw [Bd.returns] at h; cases h)
  refine ⟨_, _, retN X0 hx (t := .char) Bd.returns (by simp) (hb hby own_d1_26) hr4, hrun4, hended4, _, _, rfl, ?_, ⟨_, rfl⟩, hW4, hsame4.mono (by decide) (by decide)⟩
  show Q_rmPick Z zC vF hvF n h0 n0 _ s₁.heap _
  exact ⟨(congrArg (fun z => some (Value.int z)) (hn2.trans hr3)), N0, e0⟩
 ·refine own_by (T' := s₁) (g' := (mkF m 8 #[.val (.int n)] [])) (fun _ kt_ => XS.ifNo X0.here hx rfl (hb hby own_d1_5) rfl (XT.i0_eq_f hc1) kt_) ?_
  refine own_by (T' := s₁) (g' := (mkF m 10 #[.val (.int n)] [.int 48])) (fun _ kt_ => XS.bipush X0.here hx rfl (hb hby own_d1_8) kt_) ?_
  refine own_by (T' := s₁) (g' := (mkF m 11 #[.val (.int n)] [.int n, .int 48])) (fun _ kt_ => XS.iloadN X0.here hx rfl (hb hby own_d1_10) rfl kt_) ?_
  refine own_by (T' := s₁) (g' := (mkF m 13 #[.val (.int n)] [.int 9, .int n, .int 48])) (fun _ kt_ => XS.bipush X0.here hx rfl (hb hby own_d1_11) kt_) ?_
  refine own_by (T' := s₁) (g' := (mkF m 14 #[.val (.int n)] [(.int ((n.toUInt32 >>> ((9 : Int32) &&& 31).toUInt32).toInt32)), .int 48])) (fun _ kt_ => XS.iushr X0.here hx rfl (hb hby own_d1_13) rfl kt_) ?_
  refine own_by (T' := s₁) (g' := (mkF m 16 #[.val (.int n)] [.int 10, (.int ((n.toUInt32 >>> ((9 : Int32) &&& 31).toUInt32).toInt32)), .int 48])) (fun _ kt_ => XS.bipush X0.here hx rfl (hb hby own_d1_14) kt_) ?_
  refine own_by (T' := s₁) (g' := (mkF m 17 #[.val (.int n)] [(.int (((n.toUInt32 >>> ((9 : Int32) &&& 31).toUInt32).toInt32) % (10 : Int32))), .int 48])) (fun _ kt_ => iremM X0 hx rfl (hb hby own_d1_16) rfl (by decide) kt_) ?_
  refine own_by (T' := s₁) (g' := (mkF m 18 #[.val (.int n)] [(.int ((48 : Int32) + (((n.toUInt32 >>> ((9 : Int32) &&& 31).toUInt32).toInt32) % (10 : Int32))))])) (fun _ kt_ => XS.iadd X0.here hx rfl (hb hby own_d1_17) rfl kt_) ?_
  refine own_by (T' := s₁) (g' := (mkF m 19 #[.val (.int n)] [(.int ((48 : Int32) + (((n.toUInt32 >>> ((9 : Int32) &&& 31).toUInt32).toInt32) % (10 : Int32))).toUInt32.toUInt16.toUInt32.toInt32)])) (fun _ kt_ => XS.i2c X0.here hx rfl (hb hby own_d1_18) rfl kt_) ?_
  have hn5 : nar .char (((48 : Int32) + (((n.toUInt32 >>> ((9 : Int32) &&& 31).toUInt32).toInt32) % (10 : Int32))).toUInt32.toUInt16.toUInt32.toInt32) = ((48 : Int32) + (((n.toUInt32 >>> ((9 : Int32) &&& 31).toUInt32).toInt32) % (10 : Int32))).toUInt32.toUInt16.toUInt32.toInt32 := (own_narC _)
  have hr6 : ((48 : Int32) + (((n.toUInt32 >>> ((9 : Int32) &&& 31).toUInt32).toInt32) % (10 : Int32))).toUInt32.toUInt16.toUInt32.toInt32 = (pickF n) := by simp [pickF, hc1]
  obtain ⟨fs7, hr7, hrun7, hended7, hW7, hsame7⟩ := X0.leave (v := some (.int (nar .char (((48 : Int32) + (((n.toUInt32 >>> ((9 : Int32) &&& 31).toUInt32).toInt32) % (10 : Int32))).toUInt32.toUInt16.toUInt32.toInt32)))) (fun h => by rw [Bd.returns] at h; cases h)
  refine ⟨_, _, retN X0 hx (t := .char) Bd.returns (by simp) (hb hby own_d1_19) hr7, hrun7, hended7, _, _, rfl, ?_, ⟨_, rfl⟩, hW7, hsame7.mono (by decide) (by decide)⟩
  show Q_rmPick Z zC vF hvF n h0 n0 _ s₁.heap _
  exact ⟨(congrArg (fun z => some (Value.int z)) (hn5.trans hr6)), N0, e0⟩
theorem own_d12_0 : decode method_3_code 0 = .ok (.bipush 48, 2) := by decide +kernel
theorem own_d12_2 : decode method_3_code 2 = .ok (.iload_n 0, 1) := by decide +kernel
theorem own_d12_3 : decode method_3_code 3 = .ok (.if_icmp .gt 13, 3) := by decide +kernel
theorem own_d12_6 : decode method_3_code 6 = .ok (.iload_n 0, 1) := by decide +kernel
theorem own_d12_7 : decode method_3_code 7 = .ok (.bipush 58, 2) := by decide +kernel
theorem own_d12_9 : decode method_3_code 9 = .ok (.if_icmp .ge 7, 3) := by decide +kernel
theorem own_d12_12 : decode method_3_code 12 = .ok (.iconst 1, 1) := by decide +kernel
theorem own_d12_13 : decode method_3_code 13 = .ok (.goto 4, 3) := by decide +kernel
theorem own_d12_16 : decode method_3_code 16 = .ok (.iconst 0, 1) := by decide +kernel
theorem own_d12_17 : decode method_3_code 17 = .ok (.ireturn, 1) := by decide +kernel
theorem own_ef_rmIsD (m : MethodId) (x0 : Int32) : entryFrame m #[.int x0] 1 = mkF m 0 #[.val (.int x0)] [] := by first | (simp [entryFrame, mkF, argsToLocals, Value.category]; done) | rfl
def Q_rmIsD (Z : State) (zC : Int32) (vF : Value) (hvF : vF.isRef = true) (n : Int32) (h0 : Heap) (n0 : Nat) (vv_ : Option Value) (hh_ : Heap) (LL_ : List Loc) : Prop := vv_ = some (.int (isD n)) ∧ Fr n0 LL_ ∧ hh_ = h0
set_option maxRecDepth 65536 in
set_option maxHeartbeats 40000000 in
theorem rmIsD (l : Launch) (Z : State) (a0 : Array Value) (hw : ∀ d ∈ tables_1, d.before a0 Z = true) (ws : List Jvm.Cond) (zC : Int32) (vF : Value) (hvF : vF.isRef = true) (GS : Glob Z zC vF hvF) (n : Int32) (h0 : Heap) (n0 : Nat) (Z0 : n0 ≤ h0.size) (O0 : Old Z n0 h0) :
  MetFree l (⟨"com/example/vestledger/vestledger/journal/JournalDecimalsDigitsFromPinLaw", "isDigit", "(C)Z"⟩ : MethodName) (head1 (Jvm.Cond.code (⟨"com/example/vestledger/vestledger/journal/JournalDecimalsDigitsFromPinLaw", "isDigit", "(C)Z"⟩ : MethodName) method_3_code 1 (some .boolean) :: ws) (⟨0, 0, 0, 0⟩ : Room)) (fun aa_ UU_ => aa_ = #[.int n] ∧ Z.Warmed39 UU_.vm ∧ UU_.heap = h0) (fun _ _ _ _ _ => True) (fun _ UU_ oo_ UV_ => ∃ vv_ LL_, oo_ = .returned vv_ ∧ Q_rmIsD Z zC vF hvF n h0 n0 vv_ UV_.heap LL_ ∧ FrameEnd UU_ oo_ UV_ LL_ (⟨0, 0, 0, 0⟩ : Room).cells (⟨0, 0, 0, 0⟩ : Room).slots) := by
 refine MetFree.of_bodySF (plainFor_of_name own_pn_com_example_vestledger_vestledger_journal_JournalDecimalsDigitsFromPinLaw) hisR ?_
 intro p e s m args below meth c s₁ Bd hml0 hP hK
 obtain ⟨rfl, hZ, hh⟩ := hP
 have hx := Bd.exec
 have hby := Bd.bytes
 have hml : c.maxLocals = 1 := hml0
 have hown : s.vm.findClass "com/example/vestledger/vestledger/journal/JournalDecimalsDigitsFromPinLaw" = some m.cls := findClass_of_methodNamed Bd.named
 have hnm := (name_of_methodNamed Bd.named Bd.method).1
 have X0 : Stand p l e (⟨0, 0, 0, 0⟩ : Room) s m #[.int n] below meth c s₁ [] 0 0 := Stand.of_body Bd
 have e0 : s₁.heap = h0 := by rw [← hh, Bd.state]; rfl
 have N0 := Fr.nil n0
 have hn0 : Z.heap.size = n0 := O0.1
 have KT0 : Keep h0 h0 [] := Keep.refl _ _
 refine own_enter (Φ := fun oo_ UV_ => ∃ vv_ LL_, oo_ = .returned vv_ ∧ Q_rmIsD Z zC vF hvF n h0 n0 vv_ UV_.heap LL_ ∧ FrameEnd s oo_ UV_ LL_ (⟨0, 0, 0, 0⟩ : Room).cells (⟨0, 0, 0, 0⟩ : Room).slots) (own_ef_rmIsD m n) ?_
 refine own_by (T' := s₁) (g' := (mkF m 2 #[.val (.int n)] [.int 48])) (fun _ kt_ => XS.bipush X0.here hx rfl (hb hby own_d12_0) kt_) ?_
 refine own_by (T' := s₁) (g' := (mkF m 3 #[.val (.int n)] [.int n, .int 48])) (fun _ kt_ => XS.iloadN X0.here hx rfl (hb hby own_d12_2) rfl kt_) ?_
 by_cases hc1 : n < (48 : Int32)
 ·refine own_by (T' := s₁) (g' := (mkF m 16 #[.val (.int n)] [])) (fun _ kt_ => XS.icmpYes X0.here hx rfl (pc0 := 3) (pc' := 16) rfl (hb hby own_d12_3) rfl (XT.ii_gt_t hc1) (by decide) (by decide) kt_) ?_
  refine own_by (T' := s₁) (g' := (mkF m 17 #[.val (.int n)] [.int 0])) (fun _ kt_ => XS.iconst X0.here hx rfl (hb hby own_d12_16) kt_) ?_
  have hn2 : nar .boolean (0 : Int32) = (0 : Int32) := rfl
  have hr3 : (0 : Int32) = (isD n) := by simp [isD, hc1]
  obtain ⟨fs4, hr4, hrun4, hended4, hW4, hsame4⟩ := X0.leave (v := some (.int (nar .boolean (0 : Int32)))) (fun h => by rw [Bd.returns] at h; cases h)
  refine ⟨_, _, retN X0 hx (t := .boolean) Bd.returns (by simp) (hb hby own_d12_17) hr4, hrun4, hended4, _, _, rfl, ?_, ⟨_, rfl⟩, hW4, hsame4.mono (by decide) (by decide)⟩
  show Q_rmIsD Z zC vF hvF n h0 n0 _ s₁.heap _
  exact ⟨(congrArg (fun z => some (Value.int z)) (hn2.trans hr3)), N0, e0⟩
 ·refine own_by (T' := s₁) (g' := (mkF m 6 #[.val (.int n)] [])) (fun _ kt_ => XS.icmpNo X0.here hx rfl (hb hby own_d12_3) rfl (XT.ii_gt_f hc1) kt_) ?_
  refine own_by (T' := s₁) (g' := (mkF m 7 #[.val (.int n)] [.int n])) (fun _ kt_ => XS.iloadN X0.here hx rfl (hb hby own_d12_6) rfl kt_) ?_
  refine own_by (T' := s₁) (g' := (mkF m 9 #[.val (.int n)] [.int 58, .int n])) (fun _ kt_ => XS.bipush X0.here hx rfl (hb hby own_d12_7) kt_) ?_
  by_cases hc5 : n < (58 : Int32)
  ·refine own_by (T' := s₁) (g' := (mkF m 12 #[.val (.int n)] [])) (fun _ kt_ => XS.icmpNo X0.here hx rfl (hb hby own_d12_9) rfl (XT.ii_ge_f hc5) kt_) ?_
   refine own_by (T' := s₁) (g' := (mkF m 13 #[.val (.int n)] [.int 1])) (fun _ kt_ => XS.iconst X0.here hx rfl (hb hby own_d12_12) kt_) ?_
   refine own_by (T' := s₁) (g' := (mkF m 17 #[.val (.int n)] [.int 1])) (fun _ kt_ => XS.goto X0.here hx rfl (pc0 := 13) (pc' := 17) rfl (hb hby own_d12_13) (by decide) (by decide) kt_) ?_
   have hn6 : nar .boolean (1 : Int32) = (1 : Int32) := rfl
   have hr7 : (1 : Int32) = (isD n) := by simp [isD, hc1, hc5]
   obtain ⟨fs8, hr8, hrun8, hended8, hW8, hsame8⟩ := X0.leave (v := some (.int (nar .boolean (1 : Int32)))) (fun h => by rw [Bd.returns] at h; cases h)
   refine ⟨_, _, retN X0 hx (t := .boolean) Bd.returns (by simp) (hb hby own_d12_17) hr8, hrun8, hended8, _, _, rfl, ?_, ⟨_, rfl⟩, hW8, hsame8.mono (by decide) (by decide)⟩
   show Q_rmIsD Z zC vF hvF n h0 n0 _ s₁.heap _
   exact ⟨(congrArg (fun z => some (Value.int z)) (hn6.trans hr7)), N0, e0⟩
  ·refine own_by (T' := s₁) (g' := (mkF m 16 #[.val (.int n)] [])) (fun _ kt_ => XS.icmpYes X0.here hx rfl (pc0 := 9) (pc' := 16) rfl (hb hby own_d12_9) rfl (XT.ii_ge_t hc5) (by decide) (by decide) kt_) ?_
   refine own_by (T' := s₁) (g' := (mkF m 17 #[.val (.int n)] [.int 0])) (fun _ kt_ => XS.iconst X0.here hx rfl (hb hby own_d12_16) kt_) ?_
   have hn9 : nar .boolean (0 : Int32) = (0 : Int32) := rfl
   have hr10 : (0 : Int32) = (isD n) := by simp [isD, hc1, hc5]
   obtain ⟨fs11, hr11, hrun11, hended11, hW11, hsame11⟩ := X0.leave (v := some (.int (nar .boolean (0 : Int32)))) (fun h => by rw [Bd.returns] at h; cases h)
   refine ⟨_, _, retN X0 hx (t := .boolean) Bd.returns (by simp) (hb hby own_d12_17) hr11, hrun11, hended11, _, _, rfl, ?_, ⟨_, rfl⟩, hW11, hsame11.mono (by decide) (by decide)⟩
   show Q_rmIsD Z zC vF hvF n h0 n0 _ s₁.heap _
   exact ⟨(congrArg (fun z => some (Value.int z)) (hn9.trans hr10)), N0, e0⟩

theorem own_final (nn fr c0 c1 c2 c3 d0 d1 d2 d3 r0 r1 r2 r3 ex : Int32) (h : ((nn = (0 : Int32) ∧ fr = (0 : Int32)) ∨ (nn = (1 : Int32) ∧ fr = (0 : Int32)) ∨ (nn = (1 : Int32) ∧ fr = (1 : Int32)) ∨ (nn = (2 : Int32) ∧ fr = (0 : Int32)) ∨ (nn = (2 : Int32) ∧ fr = (1 : Int32)) ∨ (nn = (2 : Int32) ∧ fr = (2 : Int32)) ∨ (nn = (3 : Int32) ∧ fr = (0 : Int32)) ∨ (nn = (3 : Int32) ∧ fr = (1 : Int32)) ∨ (nn = (3 : Int32) ∧ fr = (2 : Int32)) ∨ (nn = (3 : Int32) ∧ fr = (3 : Int32)) ∨ (nn = (4 : Int32) ∧ fr = (0 : Int32)) ∨ (nn = (4 : Int32) ∧ fr = (1 : Int32)) ∨ (nn = (4 : Int32) ∧ fr = (2 : Int32)) ∨ (nn = (4 : Int32) ∧ fr = (3 : Int32)) ∨ (nn = (4 : Int32) ∧ fr = (4 : Int32)))) (e0 : d0 = (if (0 : Int32) < nn then (if (isD c0) = (0 : Int32) then (0 : Int32) else (1 : Int32)) else (0 : Int32))) (e1 : d1 = (if (1 : Int32) < nn then (if (isD c1) = (0 : Int32) then (0 : Int32) else (1 : Int32)) else (0 : Int32))) (e2 : d2 = (if (2 : Int32) < nn then (if (isD c2) = (0 : Int32) then (0 : Int32) else (1 : Int32)) else (0 : Int32))) (e3 : d3 = (if (3 : Int32) < nn then (if (isD c3) = (0 : Int32) then (0 : Int32) else (1 : Int32)) else (0 : Int32))) (f3 : r3 = (if d3 = (0 : Int32) then (0 : Int32) else (1 : Int32))) (f2 : r2 = (if d2 = (0 : Int32) then (0 : Int32) else ((1 : Int32) + r3))) (f1 : r1 = (if d1 = (0 : Int32) then (0 : Int32) else ((1 : Int32) + r2))) (f0 : r0 = (if d0 = (0 : Int32) then (0 : Int32) else ((1 : Int32) + r1))) (fe : ex = (if fr = (0 : Int32) then r0 else if fr = (1 : Int32) then r1 else if fr = (2 : Int32) then r2 else if fr = (3 : Int32) then r3 else (0 : Int32))) : runF nn fr c0 c1 c2 c3 = ex := by
 have g0 := own_58 c0
 have g1 := own_58 c1
 have g2 := own_58 c2
 have g3 := own_58 c3
 rcases h with ⟨rfl, rfl⟩ | ⟨rfl, rfl⟩ | ⟨rfl, rfl⟩ | ⟨rfl, rfl⟩ | ⟨rfl, rfl⟩ | ⟨rfl, rfl⟩ | ⟨rfl, rfl⟩ | ⟨rfl, rfl⟩ | ⟨rfl, rfl⟩ | ⟨rfl, rfl⟩ | ⟨rfl, rfl⟩ | ⟨rfl, rfl⟩ | ⟨rfl, rfl⟩ | ⟨rfl, rfl⟩ | ⟨rfl, rfl⟩
 ·rw [own_run_0_0, fe, f0, f1, f2, f3, e0, e1, e2, e3]; simp only [g0, g1, g2, g3, isD]; simp +decide
 ·rw [own_run_1_0, fe, f0, f1, f2, f3, e0, e1, e2, e3]; simp only [g0, g1, g2, g3, isD]; by_cases u0 : c0 < (48 : Int32) <;> by_cases v0 : c0 < (58 : Int32) <;> simp +decide [u0, v0]
 ·rw [own_run_1_1, fe, f0, f1, f2, f3, e0, e1, e2, e3]; simp only [g0, g1, g2, g3, isD]; by_cases u0 : c0 < (48 : Int32) <;> by_cases v0 : c0 < (58 : Int32) <;> simp +decide [u0, v0]
 ·rw [own_run_2_0, fe, f0, f1, f2, f3, e0, e1, e2, e3]; simp only [g0, g1, g2, g3, isD]; by_cases u0 : c0 < (48 : Int32) <;> by_cases v0 : c0 < (58 : Int32) <;> by_cases u1 : c1 < (48 : Int32) <;> by_cases v1 : c1 < (58 : Int32) <;> simp +decide [u0, v0, u1, v1]
 ·rw [own_run_2_1, fe, f0, f1, f2, f3, e0, e1, e2, e3]; simp only [g0, g1, g2, g3, isD]; by_cases u0 : c0 < (48 : Int32) <;> by_cases v0 : c0 < (58 : Int32) <;> by_cases u1 : c1 < (48 : Int32) <;> by_cases v1 : c1 < (58 : Int32) <;> simp +decide [u0, v0, u1, v1]
 ·rw [own_run_2_2, fe, f0, f1, f2, f3, e0, e1, e2, e3]; simp only [g0, g1, g2, g3, isD]; by_cases u0 : c0 < (48 : Int32) <;> by_cases v0 : c0 < (58 : Int32) <;> by_cases u1 : c1 < (48 : Int32) <;> by_cases v1 : c1 < (58 : Int32) <;> simp +decide [u0, v0, u1, v1]
 ·rw [own_run_3_0, fe, f0, f1, f2, f3, e0, e1, e2, e3]; simp only [g0, g1, g2, g3, isD]; by_cases u0 : c0 < (48 : Int32) <;> by_cases v0 : c0 < (58 : Int32) <;> by_cases u1 : c1 < (48 : Int32) <;> by_cases v1 : c1 < (58 : Int32) <;> by_cases u2 : c2 < (48 : Int32) <;> by_cases v2 : c2 < (58 : Int32) <;> simp +decide [u0, v0, u1, v1, u2, v2]
 ·rw [own_run_3_1, fe, f0, f1, f2, f3, e0, e1, e2, e3]; simp only [g0, g1, g2, g3, isD]; by_cases u0 : c0 < (48 : Int32) <;> by_cases v0 : c0 < (58 : Int32) <;> by_cases u1 : c1 < (48 : Int32) <;> by_cases v1 : c1 < (58 : Int32) <;> by_cases u2 : c2 < (48 : Int32) <;> by_cases v2 : c2 < (58 : Int32) <;> simp +decide [u0, v0, u1, v1, u2, v2]
 ·rw [own_run_3_2, fe, f0, f1, f2, f3, e0, e1, e2, e3]; simp only [g0, g1, g2, g3, isD]; by_cases u0 : c0 < (48 : Int32) <;> by_cases v0 : c0 < (58 : Int32) <;> by_cases u1 : c1 < (48 : Int32) <;> by_cases v1 : c1 < (58 : Int32) <;> by_cases u2 : c2 < (48 : Int32) <;> by_cases v2 : c2 < (58 : Int32) <;> simp +decide [u0, v0, u1, v1, u2, v2]
 ·rw [own_run_3_3, fe, f0, f1, f2, f3, e0, e1, e2, e3]; simp only [g0, g1, g2, g3, isD]; by_cases u0 : c0 < (48 : Int32) <;> by_cases v0 : c0 < (58 : Int32) <;> by_cases u1 : c1 < (48 : Int32) <;> by_cases v1 : c1 < (58 : Int32) <;> by_cases u2 : c2 < (48 : Int32) <;> by_cases v2 : c2 < (58 : Int32) <;> simp +decide [u0, v0, u1, v1, u2, v2]
 ·rw [own_run_4_0, fe, f0, f1, f2, f3, e0, e1, e2, e3]; simp only [g0, g1, g2, g3, isD]; by_cases u0 : c0 < (48 : Int32) <;> by_cases v0 : c0 < (58 : Int32) <;> by_cases u1 : c1 < (48 : Int32) <;> by_cases v1 : c1 < (58 : Int32) <;> by_cases u2 : c2 < (48 : Int32) <;> by_cases v2 : c2 < (58 : Int32) <;> by_cases u3 : c3 < (48 : Int32) <;> by_cases v3 : c3 < (58 : Int32) <;> simp +decide [u0, v0, u1, v1, u2, v2, u3, v3]
 ·rw [own_run_4_1, fe, f0, f1, f2, f3, e0, e1, e2, e3]; simp only [g0, g1, g2, g3, isD]; by_cases u0 : c0 < (48 : Int32) <;> by_cases v0 : c0 < (58 : Int32) <;> by_cases u1 : c1 < (48 : Int32) <;> by_cases v1 : c1 < (58 : Int32) <;> by_cases u2 : c2 < (48 : Int32) <;> by_cases v2 : c2 < (58 : Int32) <;> by_cases u3 : c3 < (48 : Int32) <;> by_cases v3 : c3 < (58 : Int32) <;> simp +decide [u0, v0, u1, v1, u2, v2, u3, v3]
 ·rw [own_run_4_2, fe, f0, f1, f2, f3, e0, e1, e2, e3]; simp only [g0, g1, g2, g3, isD]; by_cases u0 : c0 < (48 : Int32) <;> by_cases v0 : c0 < (58 : Int32) <;> by_cases u1 : c1 < (48 : Int32) <;> by_cases v1 : c1 < (58 : Int32) <;> by_cases u2 : c2 < (48 : Int32) <;> by_cases v2 : c2 < (58 : Int32) <;> by_cases u3 : c3 < (48 : Int32) <;> by_cases v3 : c3 < (58 : Int32) <;> simp +decide [u0, v0, u1, v1, u2, v2, u3, v3]
 ·rw [own_run_4_3, fe, f0, f1, f2, f3, e0, e1, e2, e3]; simp only [g0, g1, g2, g3, isD]; by_cases u0 : c0 < (48 : Int32) <;> by_cases v0 : c0 < (58 : Int32) <;> by_cases u1 : c1 < (48 : Int32) <;> by_cases v1 : c1 < (58 : Int32) <;> by_cases u2 : c2 < (48 : Int32) <;> by_cases v2 : c2 < (58 : Int32) <;> by_cases u3 : c3 < (48 : Int32) <;> by_cases v3 : c3 < (58 : Int32) <;> simp +decide [u0, v0, u1, v1, u2, v2, u3, v3]
 ·rw [own_run_4_4, fe, f0, f1, f2, f3, e0, e1, e2, e3]; simp only [g0, g1, g2, g3, isD]; by_cases u0 : c0 < (48 : Int32) <;> by_cases v0 : c0 < (58 : Int32) <;> by_cases u1 : c1 < (48 : Int32) <;> by_cases v1 : c1 < (58 : Int32) <;> by_cases u2 : c2 < (48 : Int32) <;> by_cases v2 : c2 < (58 : Int32) <;> by_cases u3 : c3 < (48 : Int32) <;> by_cases v3 : c3 < (58 : Int32) <;> simp +decide [u0, v0, u1, v1, u2, v2, u3, v3]
theorem own_pd_12 : parseMethodDescriptor "(ICCCC)Ljava/lang/String;" = some ⟨[.int, .char, .char, .char, .char], some (.object "java/lang/String")⟩ := by decide +kernel
theorem own_pd_13 : parseMethodDescriptor "(Ljava/lang/String;I)I" = some ⟨[(.object "java/lang/String"), .int], some .int⟩ := by decide +kernel
theorem own_pd_14 : parseMethodDescriptor "(C)Z" = some ⟨[.char], some .boolean⟩ := by decide +kernel
theorem own_ef_rm0 (m : MethodId) (x0 : Int32) (x1 : Int32) (x2 : Int32) (x3 : Int32) (x4 : Int32) : entryFrame m #[.int x0, .int x1, .int x2, .int x3, .int x4] maxLocals = mkF m 0 #[.val (.int x0), .val (.int x1), .val (.int x2), .val (.int x3), .val (.int x4), .unset, .unset, .unset, .unset, .unset, .unset, .unset, .unset, .unset, .unset, .unset, .unset, .unset, .unset, .unset, .unset] [] := by first | (simp [entryFrame, mkF, argsToLocals, Value.category, maxLocals]; done) | rfl
def Q_rm0 (Z : State) (zC : Int32) (vF : Value) (hvF : vF.isRef = true) (p0 : Int32) (p1 : Int32) (p2 : Int32) (p3 : Int32) (p4 : Int32) (h0 : Heap) (n0 : Nat) (vv_ : Option Value) (hh_ : Heap) (LL_ : List Loc) : Prop := vv_ = some (.int 1) ∧ Fr n0 LL_
set_option maxRecDepth 65536 in
set_option maxHeartbeats 40000000 in
theorem rm0 (l : Launch) (Z : State) (a0 : Array Value) (hw : ∀ d ∈ tables_1, d.before a0 Z = true) (ws : List Jvm.Cond) (zC : Int32) (vF : Value) (hvF : vF.isRef = true) (GS : Glob Z zC vF hvF) (p0 : Int32) (p1 : Int32) (p2 : Int32) (p3 : Int32) (p4 : Int32) (h0 : Heap) (n0 : Nat) (Z0 : n0 ≤ h0.size) (O0 : Old Z n0 h0) :
  MetFree l x (head1 (Jvm.Cond.code x code maxLocals ret :: ws) room_1) (fun aa_ UU_ => aa_ = #[.int p0, .int p1, .int p2, .int p3, .int p4] ∧ Z.Warmed39 UU_.vm ∧ UU_.heap = h0 ∧ IB Z UU_.vm []) (fun _ _ _ _ _ => True) (fun _ UU_ oo_ UV_ => ∃ vv_ LL_, oo_ = .returned vv_ ∧ Q_rm0 Z zC vF hvF p0 p1 p2 p3 p4 h0 n0 vv_ UV_.heap LL_ ∧ ReturnedEndW UU_ oo_ UV_ LL_ 4 12) := by
 refine MetFree.of_bodySF (plainFor_of_name own_pn_com_example_vestledger_vestledger_journal_JournalDecimalsDigitsFromPinLaw) hisR ?_
 intro p e s m args below meth c s₁ Bd hml0 hP hK
 obtain ⟨rfl, hZ, hh, hI⟩ := hP
 have hx := Bd.exec
 have hby := Bd.bytes
 have hml : c.maxLocals = 21 := hml0
 have hown : s.vm.findClass "com/example/vestledger/vestledger/journal/JournalDecimalsDigitsFromPinLaw" = some m.cls := findClass_of_methodNamed Bd.named
 have hnm := (name_of_methodNamed Bd.named Bd.method).1
 have X0 : Stand p l e room_1 (s.setVm s.vm) m #[.int p0, .int p1, .int p2, .int p3, .int p4] below meth c s₁ [] 0 0 := Stand.of_body Bd
 have e0 : s₁.heap = h0 := by rw [← hh, Bd.state]; rfl
 have N0 := Fr.nil n0
 have hn0 : Z.heap.size = n0 := O0.1
 have KT0 : Keep h0 h0 [] := Keep.refl _ _
 have hS0 : s.Since s.vm h0.size := (State.WarmedH.refl s).since _
 refine own_enter (Φ := fun oo_ UV_ => ∃ vv_ LL_, oo_ = .returned vv_ ∧ Q_rm0 Z zC vF hvF p0 p1 p2 p3 p4 h0 n0 vv_ UV_.heap LL_ ∧ ReturnedEndW s oo_ UV_ LL_ 4 12) (own_ef_rm0 m p0 p1 p2 p3 p4) ?_
 refine own_by (T' := s₁) (g' := (mkF m 1 #[.val (.int p0), .val (.int p1), .val (.int p2), .val (.int p3), .val (.int p4), .unset, .unset, .unset, .unset, .unset, .unset, .unset, .unset, .unset, .unset, .unset, .unset, .unset, .unset, .unset, .unset] [.int p0])) (fun _ kt_ => XS.iloadN X0.here hx rfl (hb hby at_0) rfl kt_) ?_
 refine own_by (T' := s₁) (g' := (mkF m 3 #[.val (.int p0), .val (.int p1), .val (.int p2), .val (.int p3), .val (.int p4), .unset, .unset, .unset, .unset, .unset, .unset, .unset, .unset, .unset, .unset, .unset, .unset, .unset, .unset, .unset, .unset] [.int 7, .int p0])) (fun _ kt_ => XS.bipush X0.here hx rfl (hb hby at_1) kt_) ?_
 refine own_by (T' := s₁) (g' := (mkF m 4 #[.val (.int p0), .val (.int p1), .val (.int p2), .val (.int p3), .val (.int p4), .unset, .unset, .unset, .unset, .unset, .unset, .unset, .unset, .unset, .unset, .unset, .unset, .unset, .unset, .unset, .unset] [(.int (p0 &&& (7 : Int32)))])) (fun _ kt_ => XS.iand X0.here hx rfl (hb hby at_3) rfl kt_) ?_
 refine own_by (T' := s₁) (g' := (mkF m 5 #[.val (.int p0), .val (.int p1), .val (.int p2), .val (.int p3), .val (.int p4), .unset, .unset, .unset, .unset, .unset, .unset, .unset, .unset, .unset, .unset, .unset, .unset, .unset, .unset, .unset, .unset] [.int 5, (.int (p0 &&& (7 : Int32)))])) (fun _ kt_ => XS.iconst X0.here hx rfl (hb hby at_4) kt_) ?_
 refine own_by (T' := s₁) (g' := (mkF m 6 #[.val (.int p0), .val (.int p1), .val (.int p2), .val (.int p3), .val (.int p4), .unset, .unset, .unset, .unset, .unset, .unset, .unset, .unset, .unset, .unset, .unset, .unset, .unset, .unset, .unset, .unset] [(.int ((p0 &&& (7 : Int32)) % (5 : Int32)))])) (fun _ kt_ => iremM X0 hx rfl (hb hby at_5) rfl (by decide) kt_) ?_
 have J1 : ∀ (T1 : State) (lo1 : List Loc) (X1 : Stand p l e room_1 (s.setVm s.vm) m #[.int p0, .int p1, .int p2, .int p3, .int p4] below meth c T1 lo1 0 0) (e1 : T1.heap = h0) (N1 : Fr n0 lo1) (nn : Int32), (nn = (0 : Int32) ∨ nn = (1 : Int32) ∨ nn = (2 : Int32) ∨ nn = (3 : Int32) ∨ nn = (4 : Int32)) → OGoal p e below (fun oo_ UV_ => ∃ vv_ LL_, oo_ = .returned vv_ ∧ Q_rm0 Z zC vF hvF p0 p1 p2 p3 p4 h0 n0 vv_ UV_.heap LL_ ∧ ReturnedEndW s oo_ UV_ LL_ 4 12) T1 (mkF m 8 #[.val (.int p0), .val (.int p1), .val (.int p2), .val (.int p3), .val (.int p4), .val (.int nn), .unset, .unset, .unset, .unset, .unset, .unset, .unset, .unset, .unset, .unset, .unset, .unset, .unset, .unset, .unset] []) := by
  intro T1 lo1 X1 e1 N1 nn  hj2
  refine own_by (T' := T1) (g' := (mkF m 9 #[.val (.int p0), .val (.int p1), .val (.int p2), .val (.int p3), .val (.int p4), .val (.int nn), .unset, .unset, .unset, .unset, .unset, .unset, .unset, .unset, .unset, .unset, .unset, .unset, .unset, .unset, .unset] [.int p0])) (fun _ kt_ => XS.iloadN X1.here hx rfl (hb hby at_8) rfl kt_) ?_
  refine own_by (T' := T1) (g' := (mkF m 10 #[.val (.int p0), .val (.int p1), .val (.int p2), .val (.int p3), .val (.int p4), .val (.int nn), .unset, .unset, .unset, .unset, .unset, .unset, .unset, .unset, .unset, .unset, .unset, .unset, .unset, .unset, .unset] [.int 3, .int p0])) (fun _ kt_ => XS.iconst X1.here hx rfl (hb hby at_9) kt_) ?_
  refine own_by (T' := T1) (g' := (mkF m 11 #[.val (.int p0), .val (.int p1), .val (.int p2), .val (.int p3), .val (.int p4), .val (.int nn), .unset, .unset, .unset, .unset, .unset, .unset, .unset, .unset, .unset, .unset, .unset, .unset, .unset, .unset, .unset] [(.int ((p0.toUInt32 >>> ((3 : Int32) &&& 31).toUInt32).toInt32))])) (fun _ kt_ => XS.iushr X1.here hx rfl (hb hby at_10) rfl kt_) ?_
  refine own_by (T' := T1) (g' := (mkF m 14 #[.val (.int p0), .val (.int p1), .val (.int p2), .val (.int p3), .val (.int p4), .val (.int nn), .unset, .unset, .unset, .unset, .unset, .unset, .unset, .unset, .unset, .unset, .unset, .unset, .unset, .unset, .unset] [.int 255, (.int ((p0.toUInt32 >>> ((3 : Int32) &&& 31).toUInt32).toInt32))])) (fun _ kt_ => XS.sipush X1.here hx rfl (hb hby at_11) kt_) ?_
  refine own_by (T' := T1) (g' := (mkF m 15 #[.val (.int p0), .val (.int p1), .val (.int p2), .val (.int p3), .val (.int p4), .val (.int nn), .unset, .unset, .unset, .unset, .unset, .unset, .unset, .unset, .unset, .unset, .unset, .unset, .unset, .unset, .unset] [(.int (((p0.toUInt32 >>> ((3 : Int32) &&& 31).toUInt32).toInt32) &&& (255 : Int32)))])) (fun _ kt_ => XS.iand X1.here hx rfl (hb hby at_14) rfl kt_) ?_
  refine own_by (T' := T1) (g' := (mkF m 17 #[.val (.int p0), .val (.int p1), .val (.int p2), .val (.int p3), .val (.int p4), .val (.int nn), .unset, .unset, .unset, .unset, .unset, .unset, .unset, .unset, .unset, .unset, .unset, .unset, .unset, .unset, .unset] [.int nn, (.int (((p0.toUInt32 >>> ((3 : Int32) &&& 31).toUInt32).toInt32) &&& (255 : Int32)))])) (fun _ kt_ => XS.iload X1.here hx rfl (hb hby at_15) rfl kt_) ?_
  refine own_by (T' := T1) (g' := (mkF m 18 #[.val (.int p0), .val (.int p1), .val (.int p2), .val (.int p3), .val (.int p4), .val (.int nn), .unset, .unset, .unset, .unset, .unset, .unset, .unset, .unset, .unset, .unset, .unset, .unset, .unset, .unset, .unset] [.int 1, .int nn, (.int (((p0.toUInt32 >>> ((3 : Int32) &&& 31).toUInt32).toInt32) &&& (255 : Int32)))])) (fun _ kt_ => XS.iconst X1.here hx rfl (hb hby at_17) kt_) ?_
  refine own_by (T' := T1) (g' := (mkF m 19 #[.val (.int p0), .val (.int p1), .val (.int p2), .val (.int p3), .val (.int p4), .val (.int nn), .unset, .unset, .unset, .unset, .unset, .unset, .unset, .unset, .unset, .unset, .unset, .unset, .unset, .unset, .unset] [(.int (nn + (1 : Int32))), (.int (((p0.toUInt32 >>> ((3 : Int32) &&& 31).toUInt32).toInt32) &&& (255 : Int32)))])) (fun _ kt_ => XS.iadd X1.here hx rfl (hb hby at_18) rfl kt_) ?_
  refine own_by (T' := T1) (g' := (mkF m 20 #[.val (.int p0), .val (.int p1), .val (.int p2), .val (.int p3), .val (.int p4), .val (.int nn), .unset, .unset, .unset, .unset, .unset, .unset, .unset, .unset, .unset, .unset, .unset, .unset, .unset, .unset, .unset] [(.int ((((p0.toUInt32 >>> ((3 : Int32) &&& 31).toUInt32).toInt32) &&& (255 : Int32)) % (nn + (1 : Int32))))])) (fun _ kt_ => iremM X1 hx rfl (hb hby at_19) rfl (own_n1' hj2) kt_) ?_
  refine own_by (T' := T1) (g' := (mkF m 22 #[.val (.int p0), .val (.int p1), .val (.int p2), .val (.int p3), .val (.int p4), .val (.int nn), .val (.int ((((p0.toUInt32 >>> ((3 : Int32) &&& 31).toUInt32).toInt32) &&& (255 : Int32)) % (nn + (1 : Int32)))), .unset, .unset, .unset, .unset, .unset, .unset, .unset, .unset, .unset, .unset, .unset, .unset, .unset, .unset] [])) (fun _ kt_ => XS.istore X1.here hx rfl (hb hby at_20) rfl (l' := #[.val (.int p0), .val (.int p1), .val (.int p2), .val (.int p3), .val (.int p4), .val (.int nn), .val (.int ((((p0.toUInt32 >>> ((3 : Int32) &&& 31).toUInt32).toInt32) &&& (255 : Int32)) % (nn + (1 : Int32)))), .unset, .unset, .unset, .unset, .unset, .unset, .unset, .unset, .unset, .unset, .unset, .unset, .unset, .unset]) rfl kt_) ?_
  refine own_by (T' := T1) (g' := (mkF m 23 #[.val (.int p0), .val (.int p1), .val (.int p2), .val (.int p3), .val (.int p4), .val (.int nn), .val (.int ((((p0.toUInt32 >>> ((3 : Int32) &&& 31).toUInt32).toInt32) &&& (255 : Int32)) % (nn + (1 : Int32)))), .unset, .unset, .unset, .unset, .unset, .unset, .unset, .unset, .unset, .unset, .unset, .unset, .unset, .unset] [.int p1])) (fun _ kt_ => XS.iloadN X1.here hx rfl (hb hby at_22) rfl kt_) ?_
  obtain ⟨_, _, ⟨T3, L3, k3, n3⟩, -, X3, ⟨Lc3, hQ3, l3, y3, z3⟩, st3⟩ := Jvm.LawKit.callS X1 hx (y := (⟨"com/example/vestledger/vestledger/journal/JournalDecimalsDigitsFromPinLaw", "pick", "(I)C"⟩ : MethodName)) hown (mvT hZ (ww hw 0 rfl)) (mvT hZ (ww hw 1 rfl)) (mvT hZ (ww hw 2 rfl)) (mvT hZ (ww hw 3 rfl)) (by decide) (backOf (W := 0) (rmPick l Z a0 hw [] zC vF hvF GS p1 h0 n0 (by omega) O0 ) hZ (ww hw 3 rfl) (ww hw 2 rfl) (by decide) (by decide)) (g := (mkF m 23 #[.val (.int p0), .val (.int p1), .val (.int p2), .val (.int p3), .val (.int p4), .val (.int nn), .val (.int ((((p0.toUInt32 >>> ((3 : Int32) &&& 31).toUInt32).toInt32) &&& (255 : Int32)) % (nn + (1 : Int32)))), .unset, .unset, .unset, .unset, .unset, .unset, .unset, .unset, .unset, .unset, .unset, .unset, .unset, .unset] [.int p1])) rfl (by rw [hml]; rfl) (argsL := [.int p1]) (rest := []) (lenOf own_pd_11 rfl) rfl (by show 2 * 0 + _ ≤ _; exact Nat.le_of_eq rfl) (hb hby at_23) (fun _ _ => ⟨rfl, e1, (by decide : 0 + 0 ≤ _), (by decide : 0 + 0 ≤ _)⟩)
  dsimp only [Pt.U, Pt.locs, Pt.cells, Pt.slots] at X3 l3 y3 z3 st3 hQ3
  subst l3 y3 z3
  obtain ⟨rfl, N3q, e3⟩ := hQ3
  have N4 := Fr.app N1 N3q
  refine own_by (T' := T3) (g' := (mkF m 26 #[.val (.int p0), .val (.int p1), .val (.int p2), .val (.int p3), .val (.int p4), .val (.int nn), .val (.int ((((p0.toUInt32 >>> ((3 : Int32) &&& 31).toUInt32).toInt32) &&& (255 : Int32)) % (nn + (1 : Int32)))), .unset, .unset, .unset, .unset, .unset, .unset, .unset, .unset, .unset, .unset, .unset, .unset, .unset, .unset] [(.int (pickF p1))])) st3 ?_
  refine own_by (T' := T3) (g' := (mkF m 28 #[.val (.int p0), .val (.int p1), .val (.int p2), .val (.int p3), .val (.int p4), .val (.int nn), .val (.int ((((p0.toUInt32 >>> ((3 : Int32) &&& 31).toUInt32).toInt32) &&& (255 : Int32)) % (nn + (1 : Int32)))), .val (.int (pickF p1)), .unset, .unset, .unset, .unset, .unset, .unset, .unset, .unset, .unset, .unset, .unset, .unset, .unset] [])) (fun _ kt_ => XS.istore X3.here hx rfl (hb hby at_26) rfl (l' := #[.val (.int p0), .val (.int p1), .val (.int p2), .val (.int p3), .val (.int p4), .val (.int nn), .val (.int ((((p0.toUInt32 >>> ((3 : Int32) &&& 31).toUInt32).toInt32) &&& (255 : Int32)) % (nn + (1 : Int32)))), .val (.int (pickF p1)), .unset, .unset, .unset, .unset, .unset, .unset, .unset, .unset, .unset, .unset, .unset, .unset, .unset]) rfl kt_) ?_
  refine own_by (T' := T3) (g' := (mkF m 29 #[.val (.int p0), .val (.int p1), .val (.int p2), .val (.int p3), .val (.int p4), .val (.int nn), .val (.int ((((p0.toUInt32 >>> ((3 : Int32) &&& 31).toUInt32).toInt32) &&& (255 : Int32)) % (nn + (1 : Int32)))), .val (.int (pickF p1)), .unset, .unset, .unset, .unset, .unset, .unset, .unset, .unset, .unset, .unset, .unset, .unset, .unset] [.int p2])) (fun _ kt_ => XS.iloadN X3.here hx rfl (hb hby at_28) rfl kt_) ?_
  obtain ⟨_, _, ⟨T5, L5, k5, n5⟩, -, X5, ⟨Lc5, hQ5, l5, y5, z5⟩, st5⟩ := Jvm.LawKit.callS X3 hx (y := (⟨"com/example/vestledger/vestledger/journal/JournalDecimalsDigitsFromPinLaw", "pick", "(I)C"⟩ : MethodName)) hown (mvT hZ (ww hw 0 rfl)) (mvT hZ (ww hw 1 rfl)) (mvT hZ (ww hw 2 rfl)) (mvT hZ (ww hw 3 rfl)) (by decide) (backOf (W := 0) (rmPick l Z a0 hw [] zC vF hvF GS p2 h0 n0 (by omega) O0 ) hZ (ww hw 3 rfl) (ww hw 2 rfl) (by decide) (by decide)) (g := (mkF m 29 #[.val (.int p0), .val (.int p1), .val (.int p2), .val (.int p3), .val (.int p4), .val (.int nn), .val (.int ((((p0.toUInt32 >>> ((3 : Int32) &&& 31).toUInt32).toInt32) &&& (255 : Int32)) % (nn + (1 : Int32)))), .val (.int (pickF p1)), .unset, .unset, .unset, .unset, .unset, .unset, .unset, .unset, .unset, .unset, .unset, .unset, .unset] [.int p2])) rfl (by rw [hml]; rfl) (argsL := [.int p2]) (rest := []) (lenOf own_pd_11 rfl) rfl (by show 2 * 0 + _ ≤ _; exact Nat.le_of_eq rfl) (hb hby at_29) (fun _ _ => ⟨rfl, e3, (by decide : 0 + 0 ≤ _), (by decide : 0 + 0 ≤ _)⟩)
  dsimp only [Pt.U, Pt.locs, Pt.cells, Pt.slots] at X5 l5 y5 z5 st5 hQ5
  subst l5 y5 z5
  obtain ⟨rfl, N5q, e5⟩ := hQ5
  have N6 := Fr.app N4 N5q
  refine own_by (T' := T5) (g' := (mkF m 32 #[.val (.int p0), .val (.int p1), .val (.int p2), .val (.int p3), .val (.int p4), .val (.int nn), .val (.int ((((p0.toUInt32 >>> ((3 : Int32) &&& 31).toUInt32).toInt32) &&& (255 : Int32)) % (nn + (1 : Int32)))), .val (.int (pickF p1)), .unset, .unset, .unset, .unset, .unset, .unset, .unset, .unset, .unset, .unset, .unset, .unset, .unset] [(.int (pickF p2))])) st5 ?_
  refine own_by (T' := T5) (g' := (mkF m 34 #[.val (.int p0), .val (.int p1), .val (.int p2), .val (.int p3), .val (.int p4), .val (.int nn), .val (.int ((((p0.toUInt32 >>> ((3 : Int32) &&& 31).toUInt32).toInt32) &&& (255 : Int32)) % (nn + (1 : Int32)))), .val (.int (pickF p1)), .val (.int (pickF p2)), .unset, .unset, .unset, .unset, .unset, .unset, .unset, .unset, .unset, .unset, .unset, .unset] [])) (fun _ kt_ => XS.istore X5.here hx rfl (hb hby at_32) rfl (l' := #[.val (.int p0), .val (.int p1), .val (.int p2), .val (.int p3), .val (.int p4), .val (.int nn), .val (.int ((((p0.toUInt32 >>> ((3 : Int32) &&& 31).toUInt32).toInt32) &&& (255 : Int32)) % (nn + (1 : Int32)))), .val (.int (pickF p1)), .val (.int (pickF p2)), .unset, .unset, .unset, .unset, .unset, .unset, .unset, .unset, .unset, .unset, .unset, .unset]) rfl kt_) ?_
  refine own_by (T' := T5) (g' := (mkF m 35 #[.val (.int p0), .val (.int p1), .val (.int p2), .val (.int p3), .val (.int p4), .val (.int nn), .val (.int ((((p0.toUInt32 >>> ((3 : Int32) &&& 31).toUInt32).toInt32) &&& (255 : Int32)) % (nn + (1 : Int32)))), .val (.int (pickF p1)), .val (.int (pickF p2)), .unset, .unset, .unset, .unset, .unset, .unset, .unset, .unset, .unset, .unset, .unset, .unset] [.int p3])) (fun _ kt_ => XS.iloadN X5.here hx rfl (hb hby at_34) rfl kt_) ?_
  obtain ⟨_, _, ⟨T7, L7, k7, n7⟩, -, X7, ⟨Lc7, hQ7, l7, y7, z7⟩, st7⟩ := Jvm.LawKit.callS X5 hx (y := (⟨"com/example/vestledger/vestledger/journal/JournalDecimalsDigitsFromPinLaw", "pick", "(I)C"⟩ : MethodName)) hown (mvT hZ (ww hw 0 rfl)) (mvT hZ (ww hw 1 rfl)) (mvT hZ (ww hw 2 rfl)) (mvT hZ (ww hw 3 rfl)) (by decide) (backOf (W := 0) (rmPick l Z a0 hw [] zC vF hvF GS p3 h0 n0 (by omega) O0 ) hZ (ww hw 3 rfl) (ww hw 2 rfl) (by decide) (by decide)) (g := (mkF m 35 #[.val (.int p0), .val (.int p1), .val (.int p2), .val (.int p3), .val (.int p4), .val (.int nn), .val (.int ((((p0.toUInt32 >>> ((3 : Int32) &&& 31).toUInt32).toInt32) &&& (255 : Int32)) % (nn + (1 : Int32)))), .val (.int (pickF p1)), .val (.int (pickF p2)), .unset, .unset, .unset, .unset, .unset, .unset, .unset, .unset, .unset, .unset, .unset, .unset] [.int p3])) rfl (by rw [hml]; rfl) (argsL := [.int p3]) (rest := []) (lenOf own_pd_11 rfl) rfl (by show 2 * 0 + _ ≤ _; exact Nat.le_of_eq rfl) (hb hby at_35) (fun _ _ => ⟨rfl, e5, (by decide : 0 + 0 ≤ _), (by decide : 0 + 0 ≤ _)⟩)
  dsimp only [Pt.U, Pt.locs, Pt.cells, Pt.slots] at X7 l7 y7 z7 st7 hQ7
  subst l7 y7 z7
  obtain ⟨rfl, N7q, e7⟩ := hQ7
  have N8 := Fr.app N6 N7q
  refine own_by (T' := T7) (g' := (mkF m 38 #[.val (.int p0), .val (.int p1), .val (.int p2), .val (.int p3), .val (.int p4), .val (.int nn), .val (.int ((((p0.toUInt32 >>> ((3 : Int32) &&& 31).toUInt32).toInt32) &&& (255 : Int32)) % (nn + (1 : Int32)))), .val (.int (pickF p1)), .val (.int (pickF p2)), .unset, .unset, .unset, .unset, .unset, .unset, .unset, .unset, .unset, .unset, .unset, .unset] [(.int (pickF p3))])) st7 ?_
  refine own_by (T' := T7) (g' := (mkF m 40 #[.val (.int p0), .val (.int p1), .val (.int p2), .val (.int p3), .val (.int p4), .val (.int nn), .val (.int ((((p0.toUInt32 >>> ((3 : Int32) &&& 31).toUInt32).toInt32) &&& (255 : Int32)) % (nn + (1 : Int32)))), .val (.int (pickF p1)), .val (.int (pickF p2)), .val (.int (pickF p3)), .unset, .unset, .unset, .unset, .unset, .unset, .unset, .unset, .unset, .unset, .unset] [])) (fun _ kt_ => XS.istore X7.here hx rfl (hb hby at_38) rfl (l' := #[.val (.int p0), .val (.int p1), .val (.int p2), .val (.int p3), .val (.int p4), .val (.int nn), .val (.int ((((p0.toUInt32 >>> ((3 : Int32) &&& 31).toUInt32).toInt32) &&& (255 : Int32)) % (nn + (1 : Int32)))), .val (.int (pickF p1)), .val (.int (pickF p2)), .val (.int (pickF p3)), .unset, .unset, .unset, .unset, .unset, .unset, .unset, .unset, .unset, .unset, .unset]) rfl kt_) ?_
  refine own_by (T' := T7) (g' := (mkF m 42 #[.val (.int p0), .val (.int p1), .val (.int p2), .val (.int p3), .val (.int p4), .val (.int nn), .val (.int ((((p0.toUInt32 >>> ((3 : Int32) &&& 31).toUInt32).toInt32) &&& (255 : Int32)) % (nn + (1 : Int32)))), .val (.int (pickF p1)), .val (.int (pickF p2)), .val (.int (pickF p3)), .unset, .unset, .unset, .unset, .unset, .unset, .unset, .unset, .unset, .unset, .unset] [.int p4])) (fun _ kt_ => XS.iload X7.here hx rfl (hb hby at_40) rfl kt_) ?_
  obtain ⟨_, _, ⟨T9, L9, k9, n9⟩, -, X9, ⟨Lc9, hQ9, l9, y9, z9⟩, st9⟩ := Jvm.LawKit.callS X7 hx (y := (⟨"com/example/vestledger/vestledger/journal/JournalDecimalsDigitsFromPinLaw", "pick", "(I)C"⟩ : MethodName)) hown (mvT hZ (ww hw 0 rfl)) (mvT hZ (ww hw 1 rfl)) (mvT hZ (ww hw 2 rfl)) (mvT hZ (ww hw 3 rfl)) (by decide) (backOf (W := 0) (rmPick l Z a0 hw [] zC vF hvF GS p4 h0 n0 (by omega) O0 ) hZ (ww hw 3 rfl) (ww hw 2 rfl) (by decide) (by decide)) (g := (mkF m 42 #[.val (.int p0), .val (.int p1), .val (.int p2), .val (.int p3), .val (.int p4), .val (.int nn), .val (.int ((((p0.toUInt32 >>> ((3 : Int32) &&& 31).toUInt32).toInt32) &&& (255 : Int32)) % (nn + (1 : Int32)))), .val (.int (pickF p1)), .val (.int (pickF p2)), .val (.int (pickF p3)), .unset, .unset, .unset, .unset, .unset, .unset, .unset, .unset, .unset, .unset, .unset] [.int p4])) rfl (by rw [hml]; rfl) (argsL := [.int p4]) (rest := []) (lenOf own_pd_11 rfl) rfl (by show 2 * 0 + _ ≤ _; exact Nat.le_of_eq rfl) (hb hby at_42) (fun _ _ => ⟨rfl, e7, (by decide : 0 + 0 ≤ _), (by decide : 0 + 0 ≤ _)⟩)
  dsimp only [Pt.U, Pt.locs, Pt.cells, Pt.slots] at X9 l9 y9 z9 st9 hQ9
  subst l9 y9 z9
  obtain ⟨rfl, N9q, e9⟩ := hQ9
  have N10 := Fr.app N8 N9q
  refine own_by (T' := T9) (g' := (mkF m 45 #[.val (.int p0), .val (.int p1), .val (.int p2), .val (.int p3), .val (.int p4), .val (.int nn), .val (.int ((((p0.toUInt32 >>> ((3 : Int32) &&& 31).toUInt32).toInt32) &&& (255 : Int32)) % (nn + (1 : Int32)))), .val (.int (pickF p1)), .val (.int (pickF p2)), .val (.int (pickF p3)), .unset, .unset, .unset, .unset, .unset, .unset, .unset, .unset, .unset, .unset, .unset] [(.int (pickF p4))])) st9 ?_
  have J11 : ∀ (T11 : State) (lo11 : List Loc) (X11 : Stand p l e room_1 (s.setVm s.vm) m #[.int p0, .int p1, .int p2, .int p3, .int p4] below meth c T11 lo11 0 0) (e11 : T11.heap = h0) (N11 : Fr n0 lo11) (fr : Int32) (c0 : Int32) (c1 : Int32) (c2 : Int32) (c3 : Int32), (((nn = (0 : Int32) ∧ fr = (0 : Int32)) ∨ (nn = (1 : Int32) ∧ fr = (0 : Int32)) ∨ (nn = (1 : Int32) ∧ fr = (1 : Int32)) ∨ (nn = (2 : Int32) ∧ fr = (0 : Int32)) ∨ (nn = (2 : Int32) ∧ fr = (1 : Int32)) ∨ (nn = (2 : Int32) ∧ fr = (2 : Int32)) ∨ (nn = (3 : Int32) ∧ fr = (0 : Int32)) ∨ (nn = (3 : Int32) ∧ fr = (1 : Int32)) ∨ (nn = (3 : Int32) ∧ fr = (2 : Int32)) ∨ (nn = (3 : Int32) ∧ fr = (3 : Int32)) ∨ (nn = (4 : Int32) ∧ fr = (0 : Int32)) ∨ (nn = (4 : Int32) ∧ fr = (1 : Int32)) ∨ (nn = (4 : Int32) ∧ fr = (2 : Int32)) ∨ (nn = (4 : Int32) ∧ fr = (3 : Int32)) ∨ (nn = (4 : Int32) ∧ fr = (4 : Int32))) ∧ okF c0 ∧ okF c1 ∧ okF c2 ∧ okF c3) → OGoal p e below (fun oo_ UV_ => ∃ vv_ LL_, oo_ = .returned vv_ ∧ Q_rm0 Z zC vF hvF p0 p1 p2 p3 p4 h0 n0 vv_ UV_.heap LL_ ∧ ReturnedEndW s oo_ UV_ LL_ 4 12) T11 (mkF m 47 #[.val (.int p0), .val (.int p1), .val (.int p2), .val (.int p3), .val (.int p4), .val (.int nn), .val (.int fr), .val (.int c0), .val (.int c1), .val (.int c2), .val (.int c3), .unset, .unset, .unset, .unset, .unset, .unset, .unset, .unset, .unset, .unset] []) := by
   intro T11 lo11 X11 e11 N11 fr c0 c1 c2 c3  hj12
   obtain ⟨hnf_, ok0, ok1, ok2, ok3⟩ := hj12
   refine own_by (T' := T11) (g' := (mkF m 49 #[.val (.int p0), .val (.int p1), .val (.int p2), .val (.int p3), .val (.int p4), .val (.int nn), .val (.int fr), .val (.int c0), .val (.int c1), .val (.int c2), .val (.int c3), .unset, .unset, .unset, .unset, .unset, .unset, .unset, .unset, .unset, .unset] [.int nn])) (fun _ kt_ => XS.iload X11.here hx rfl (hb hby at_47) rfl kt_) ?_
   refine own_by (T' := T11) (g' := (mkF m 51 #[.val (.int p0), .val (.int p1), .val (.int p2), .val (.int p3), .val (.int p4), .val (.int nn), .val (.int fr), .val (.int c0), .val (.int c1), .val (.int c2), .val (.int c3), .unset, .unset, .unset, .unset, .unset, .unset, .unset, .unset, .unset, .unset] [.int c0, .int nn])) (fun _ kt_ => XS.iload X11.here hx rfl (hb hby at_49) rfl kt_) ?_
   refine own_by (T' := T11) (g' := (mkF m 53 #[.val (.int p0), .val (.int p1), .val (.int p2), .val (.int p3), .val (.int p4), .val (.int nn), .val (.int fr), .val (.int c0), .val (.int c1), .val (.int c2), .val (.int c3), .unset, .unset, .unset, .unset, .unset, .unset, .unset, .unset, .unset, .unset] [.int c1, .int c0, .int nn])) (fun _ kt_ => XS.iload X11.here hx rfl (hb hby at_51) rfl kt_) ?_
   refine own_by (T' := T11) (g' := (mkF m 55 #[.val (.int p0), .val (.int p1), .val (.int p2), .val (.int p3), .val (.int p4), .val (.int nn), .val (.int fr), .val (.int c0), .val (.int c1), .val (.int c2), .val (.int c3), .unset, .unset, .unset, .unset, .unset, .unset, .unset, .unset, .unset, .unset] [.int c2, .int c1, .int c0, .int nn])) (fun _ kt_ => XS.iload X11.here hx rfl (hb hby at_53) rfl kt_) ?_
   refine own_by (T' := T11) (g' := (mkF m 57 #[.val (.int p0), .val (.int p1), .val (.int p2), .val (.int p3), .val (.int p4), .val (.int nn), .val (.int fr), .val (.int c0), .val (.int c1), .val (.int c2), .val (.int c3), .unset, .unset, .unset, .unset, .unset, .unset, .unset, .unset, .unset, .unset] [.int c3, .int c2, .int c1, .int c0, .int nn])) (fun _ kt_ => XS.iload X11.here hx rfl (hb hby at_55) rfl kt_) ?_
   obtain ⟨_, _, ⟨T13, L13, k13, n13⟩, -, Xw13, hSw13, hGw13, ⟨Lc13, hQ13, l13, y13, z13⟩, st13⟩ := callSS X11 hx (y := (⟨"com/example/vestledger/vestledger/journal/JournalDecimalsDigitsFromPinLaw", "build", "(ICCCC)Ljava/lang/String;"⟩ : MethodName)) hown (mvT hZ (ww hw 4 rfl)) (mvT hZ (ww hw 5 rfl)) (mvT hZ (ww hw 2 rfl)) (mvT hZ (ww hw 6 rfl)) (by decide) (own_backI (s := s.setVm s.vm) (W := 0) (rmBuild l Z a0 hw [] zC vF hvF GS nn c0 c1 c2 c3 h0 n0 (by omega) O0 hj2 ok0 ok1 ok2 ok3) hZ (ww hw 6 rfl) (ww hw 2 rfl) (by decide) (by decide) hI) (g := (mkF m 57 #[.val (.int p0), .val (.int p1), .val (.int p2), .val (.int p3), .val (.int p4), .val (.int nn), .val (.int fr), .val (.int c0), .val (.int c1), .val (.int c2), .val (.int c3), .unset, .unset, .unset, .unset, .unset, .unset, .unset, .unset, .unset, .unset] [.int c3, .int c2, .int c1, .int c0, .int nn])) rfl (by rw [hml]; rfl) (argsL := [.int nn, .int c0, .int c1, .int c2, .int c3]) (rest := []) (lenOf own_pd_12 rfl) rfl (by show 2 * 0 + _ ≤ _; exact Nat.le_of_eq rfl) (hb hby at_57) (fun _ _ => ⟨rfl, e11, (by decide : 0 + 4 ≤ _), (by decide : 0 + 12 ≤ _)⟩)
   dsimp only [Pt.U, Pt.locs, Pt.cells, Pt.slots] at Xw13 hSw13 hGw13 l13 y13 z13 st13 hQ13
   subst l13 y13 z13
   obtain ⟨X13, hS13, hZ13, hown13⟩ := rebS hS0 (by rw [e11]; omega) Xw13 hSw13 hGw13 hZ hown
   obtain ⟨x_14, t_15, kB_16, rfl, N13q, K13, p13_0, p13_1, p13_2, p13_3, p13_4⟩ := hQ13
   have N17 := Fr.app N11 N13q
   have gx_14 : h0.size ≤ x_14 := p13_0
   have zzK13 : h0.size ≤ T13.heap.size := K13.1
   have oo18 : Old Z n0 T13.heap := O0.keep K13 all0
   have kt19 : Keep h0 T13.heap [] := KT0.trans K13 all0
   refine own_by (T' := T13) (g' := (mkF m 60 #[.val (.int p0), .val (.int p1), .val (.int p2), .val (.int p3), .val (.int p4), .val (.int nn), .val (.int fr), .val (.int c0), .val (.int c1), .val (.int c2), .val (.int c3), .unset, .unset, .unset, .unset, .unset, .unset, .unset, .unset, .unset, .unset] [.ref x_14])) (fun _ kt_ => st13.trans kt_) ?_
   refine own_by (T' := T13) (g' := (mkF m 62 #[.val (.int p0), .val (.int p1), .val (.int p2), .val (.int p3), .val (.int p4), .val (.int nn), .val (.int fr), .val (.int c0), .val (.int c1), .val (.int c2), .val (.int c3), .val (.ref x_14), .unset, .unset, .unset, .unset, .unset, .unset, .unset, .unset, .unset] [])) (fun _ kt_ => XS.astore X13.here hx rfl (hb hby at_60) rfl rfl (l' := #[.val (.int p0), .val (.int p1), .val (.int p2), .val (.int p3), .val (.int p4), .val (.int nn), .val (.int fr), .val (.int c0), .val (.int c1), .val (.int c2), .val (.int c3), .val (.ref x_14), .unset, .unset, .unset, .unset, .unset, .unset, .unset, .unset, .unset]) rfl kt_) ?_
   have J20 : ∀ (T20 : State) (lo20 : List Loc) (X20 : Stand p l e room_1 (s.setVm T13.vm) m #[.int p0, .int p1, .int p2, .int p3, .int p4] below meth c T20 lo20 4 12) (e20 : T20.heap = T13.heap) (N20 : Fr n0 lo20) (d0 : Int32), d0 = (if (0 : Int32) < nn then (if (isD c0) = (0 : Int32) then (0 : Int32) else (1 : Int32)) else (0 : Int32)) → OGoal p e below (fun oo_ UV_ => ∃ vv_ LL_, oo_ = .returned vv_ ∧ Q_rm0 Z zC vF hvF p0 p1 p2 p3 p4 h0 n0 vv_ UV_.heap LL_ ∧ ReturnedEndW s oo_ UV_ LL_ 4 12) T20 (mkF m 80 #[.val (.int p0), .val (.int p1), .val (.int p2), .val (.int p3), .val (.int p4), .val (.int nn), .val (.int fr), .val (.int c0), .val (.int c1), .val (.int c2), .val (.int c3), .val (.ref x_14), .unset, .unset, .unset, .unset, .unset, .unset, .unset, .unset, .unset] [.int d0]) := by
    intro T20 lo20 X20 e20 N20 d0  hj21
    refine own_by (T' := T20) (g' := (mkF m 82 #[.val (.int p0), .val (.int p1), .val (.int p2), .val (.int p3), .val (.int p4), .val (.int nn), .val (.int fr), .val (.int c0), .val (.int c1), .val (.int c2), .val (.int c3), .val (.ref x_14), .val (.int d0), .unset, .unset, .unset, .unset, .unset, .unset, .unset, .unset] [])) (fun _ kt_ => XS.istore X20.here hx rfl (hb hby at_80) rfl (l' := #[.val (.int p0), .val (.int p1), .val (.int p2), .val (.int p3), .val (.int p4), .val (.int nn), .val (.int fr), .val (.int c0), .val (.int c1), .val (.int c2), .val (.int c3), .val (.ref x_14), .val (.int d0), .unset, .unset, .unset, .unset, .unset, .unset, .unset, .unset]) rfl kt_) ?_
    have J22 : ∀ (T22 : State) (lo22 : List Loc) (X22 : Stand p l e room_1 (s.setVm T13.vm) m #[.int p0, .int p1, .int p2, .int p3, .int p4] below meth c T22 lo22 4 12) (e22 : T22.heap = T13.heap) (N22 : Fr n0 lo22) (d1 : Int32), d1 = (if (1 : Int32) < nn then (if (isD c1) = (0 : Int32) then (0 : Int32) else (1 : Int32)) else (0 : Int32)) → OGoal p e below (fun oo_ UV_ => ∃ vv_ LL_, oo_ = .returned vv_ ∧ Q_rm0 Z zC vF hvF p0 p1 p2 p3 p4 h0 n0 vv_ UV_.heap LL_ ∧ ReturnedEndW s oo_ UV_ LL_ 4 12) T22 (mkF m 101 #[.val (.int p0), .val (.int p1), .val (.int p2), .val (.int p3), .val (.int p4), .val (.int nn), .val (.int fr), .val (.int c0), .val (.int c1), .val (.int c2), .val (.int c3), .val (.ref x_14), .val (.int d0), .unset, .unset, .unset, .unset, .unset, .unset, .unset, .unset] [.int d1]) := by
     intro T22 lo22 X22 e22 N22 d1  hj23
     refine own_by (T' := T22) (g' := (mkF m 103 #[.val (.int p0), .val (.int p1), .val (.int p2), .val (.int p3), .val (.int p4), .val (.int nn), .val (.int fr), .val (.int c0), .val (.int c1), .val (.int c2), .val (.int c3), .val (.ref x_14), .val (.int d0), .val (.int d1), .unset, .unset, .unset, .unset, .unset, .unset, .unset] [])) (fun _ kt_ => XS.istore X22.here hx rfl (hb hby at_101) rfl (l' := #[.val (.int p0), .val (.int p1), .val (.int p2), .val (.int p3), .val (.int p4), .val (.int nn), .val (.int fr), .val (.int c0), .val (.int c1), .val (.int c2), .val (.int c3), .val (.ref x_14), .val (.int d0), .val (.int d1), .unset, .unset, .unset, .unset, .unset, .unset, .unset]) rfl kt_) ?_
     have J24 : ∀ (T24 : State) (lo24 : List Loc) (X24 : Stand p l e room_1 (s.setVm T13.vm) m #[.int p0, .int p1, .int p2, .int p3, .int p4] below meth c T24 lo24 4 12) (e24 : T24.heap = T13.heap) (N24 : Fr n0 lo24) (d2 : Int32), d2 = (if (2 : Int32) < nn then (if (isD c2) = (0 : Int32) then (0 : Int32) else (1 : Int32)) else (0 : Int32)) → OGoal p e below (fun oo_ UV_ => ∃ vv_ LL_, oo_ = .returned vv_ ∧ Q_rm0 Z zC vF hvF p0 p1 p2 p3 p4 h0 n0 vv_ UV_.heap LL_ ∧ ReturnedEndW s oo_ UV_ LL_ 4 12) T24 (mkF m 122 #[.val (.int p0), .val (.int p1), .val (.int p2), .val (.int p3), .val (.int p4), .val (.int nn), .val (.int fr), .val (.int c0), .val (.int c1), .val (.int c2), .val (.int c3), .val (.ref x_14), .val (.int d0), .val (.int d1), .unset, .unset, .unset, .unset, .unset, .unset, .unset] [.int d2]) := by
      intro T24 lo24 X24 e24 N24 d2  hj25
      refine own_by (T' := T24) (g' := (mkF m 124 #[.val (.int p0), .val (.int p1), .val (.int p2), .val (.int p3), .val (.int p4), .val (.int nn), .val (.int fr), .val (.int c0), .val (.int c1), .val (.int c2), .val (.int c3), .val (.ref x_14), .val (.int d0), .val (.int d1), .val (.int d2), .unset, .unset, .unset, .unset, .unset, .unset] [])) (fun _ kt_ => XS.istore X24.here hx rfl (hb hby at_122) rfl (l' := #[.val (.int p0), .val (.int p1), .val (.int p2), .val (.int p3), .val (.int p4), .val (.int nn), .val (.int fr), .val (.int c0), .val (.int c1), .val (.int c2), .val (.int c3), .val (.ref x_14), .val (.int d0), .val (.int d1), .val (.int d2), .unset, .unset, .unset, .unset, .unset, .unset]) rfl kt_) ?_
      have J26 : ∀ (T26 : State) (lo26 : List Loc) (X26 : Stand p l e room_1 (s.setVm T13.vm) m #[.int p0, .int p1, .int p2, .int p3, .int p4] below meth c T26 lo26 4 12) (e26 : T26.heap = T13.heap) (N26 : Fr n0 lo26) (d3 : Int32), d3 = (if (3 : Int32) < nn then (if (isD c3) = (0 : Int32) then (0 : Int32) else (1 : Int32)) else (0 : Int32)) → OGoal p e below (fun oo_ UV_ => ∃ vv_ LL_, oo_ = .returned vv_ ∧ Q_rm0 Z zC vF hvF p0 p1 p2 p3 p4 h0 n0 vv_ UV_.heap LL_ ∧ ReturnedEndW s oo_ UV_ LL_ 4 12) T26 (mkF m 143 #[.val (.int p0), .val (.int p1), .val (.int p2), .val (.int p3), .val (.int p4), .val (.int nn), .val (.int fr), .val (.int c0), .val (.int c1), .val (.int c2), .val (.int c3), .val (.ref x_14), .val (.int d0), .val (.int d1), .val (.int d2), .unset, .unset, .unset, .unset, .unset, .unset] [.int d3]) := by
       intro T26 lo26 X26 e26 N26 d3  hj27
       refine own_by (T' := T26) (g' := (mkF m 145 #[.val (.int p0), .val (.int p1), .val (.int p2), .val (.int p3), .val (.int p4), .val (.int nn), .val (.int fr), .val (.int c0), .val (.int c1), .val (.int c2), .val (.int c3), .val (.ref x_14), .val (.int d0), .val (.int d1), .val (.int d2), .val (.int d3), .unset, .unset, .unset, .unset, .unset] [])) (fun _ kt_ => XS.istore X26.here hx rfl (hb hby at_143) rfl (l' := #[.val (.int p0), .val (.int p1), .val (.int p2), .val (.int p3), .val (.int p4), .val (.int nn), .val (.int fr), .val (.int c0), .val (.int c1), .val (.int c2), .val (.int c3), .val (.ref x_14), .val (.int d0), .val (.int d1), .val (.int d2), .val (.int d3), .unset, .unset, .unset, .unset, .unset]) rfl kt_) ?_
       have J28 : ∀ (T28 : State) (lo28 : List Loc) (X28 : Stand p l e room_1 (s.setVm T13.vm) m #[.int p0, .int p1, .int p2, .int p3, .int p4] below meth c T28 lo28 4 12) (e28 : T28.heap = T13.heap) (N28 : Fr n0 lo28) (r3 : Int32), r3 = (if d3 = (0 : Int32) then (0 : Int32) else (1 : Int32)) → OGoal p e below (fun oo_ UV_ => ∃ vv_ LL_, oo_ = .returned vv_ ∧ Q_rm0 Z zC vF hvF p0 p1 p2 p3 p4 h0 n0 vv_ UV_.heap LL_ ∧ ReturnedEndW s oo_ UV_ LL_ 4 12) T28 (mkF m 155 #[.val (.int p0), .val (.int p1), .val (.int p2), .val (.int p3), .val (.int p4), .val (.int nn), .val (.int fr), .val (.int c0), .val (.int c1), .val (.int c2), .val (.int c3), .val (.ref x_14), .val (.int d0), .val (.int d1), .val (.int d2), .val (.int d3), .unset, .unset, .unset, .unset, .unset] [.int r3]) := by
        intro T28 lo28 X28 e28 N28 r3  hj29
        refine own_by (T' := T28) (g' := (mkF m 157 #[.val (.int p0), .val (.int p1), .val (.int p2), .val (.int p3), .val (.int p4), .val (.int nn), .val (.int fr), .val (.int c0), .val (.int c1), .val (.int c2), .val (.int c3), .val (.ref x_14), .val (.int d0), .val (.int d1), .val (.int d2), .val (.int d3), .val (.int r3), .unset, .unset, .unset, .unset] [])) (fun _ kt_ => XS.istore X28.here hx rfl (hb hby at_155) rfl (l' := #[.val (.int p0), .val (.int p1), .val (.int p2), .val (.int p3), .val (.int p4), .val (.int nn), .val (.int fr), .val (.int c0), .val (.int c1), .val (.int c2), .val (.int c3), .val (.ref x_14), .val (.int d0), .val (.int d1), .val (.int d2), .val (.int d3), .val (.int r3), .unset, .unset, .unset, .unset]) rfl kt_) ?_
        have J30 : ∀ (T30 : State) (lo30 : List Loc) (X30 : Stand p l e room_1 (s.setVm T13.vm) m #[.int p0, .int p1, .int p2, .int p3, .int p4] below meth c T30 lo30 4 12) (e30 : T30.heap = T13.heap) (N30 : Fr n0 lo30) (r2 : Int32), r2 = (if d2 = (0 : Int32) then (0 : Int32) else ((1 : Int32) + r3)) → OGoal p e below (fun oo_ UV_ => ∃ vv_ LL_, oo_ = .returned vv_ ∧ Q_rm0 Z zC vF hvF p0 p1 p2 p3 p4 h0 n0 vv_ UV_.heap LL_ ∧ ReturnedEndW s oo_ UV_ LL_ 4 12) T30 (mkF m 170 #[.val (.int p0), .val (.int p1), .val (.int p2), .val (.int p3), .val (.int p4), .val (.int nn), .val (.int fr), .val (.int c0), .val (.int c1), .val (.int c2), .val (.int c3), .val (.ref x_14), .val (.int d0), .val (.int d1), .val (.int d2), .val (.int d3), .val (.int r3), .unset, .unset, .unset, .unset] [.int r2]) := by
         intro T30 lo30 X30 e30 N30 r2  hj31
         refine own_by (T' := T30) (g' := (mkF m 172 #[.val (.int p0), .val (.int p1), .val (.int p2), .val (.int p3), .val (.int p4), .val (.int nn), .val (.int fr), .val (.int c0), .val (.int c1), .val (.int c2), .val (.int c3), .val (.ref x_14), .val (.int d0), .val (.int d1), .val (.int d2), .val (.int d3), .val (.int r3), .val (.int r2), .unset, .unset, .unset] [])) (fun _ kt_ => XS.istore X30.here hx rfl (hb hby at_170) rfl (l' := #[.val (.int p0), .val (.int p1), .val (.int p2), .val (.int p3), .val (.int p4), .val (.int nn), .val (.int fr), .val (.int c0), .val (.int c1), .val (.int c2), .val (.int c3), .val (.ref x_14), .val (.int d0), .val (.int d1), .val (.int d2), .val (.int d3), .val (.int r3), .val (.int r2), .unset, .unset, .unset]) rfl kt_) ?_
         have J32 : ∀ (T32 : State) (lo32 : List Loc) (X32 : Stand p l e room_1 (s.setVm T13.vm) m #[.int p0, .int p1, .int p2, .int p3, .int p4] below meth c T32 lo32 4 12) (e32 : T32.heap = T13.heap) (N32 : Fr n0 lo32) (r1 : Int32), r1 = (if d1 = (0 : Int32) then (0 : Int32) else ((1 : Int32) + r2)) → OGoal p e below (fun oo_ UV_ => ∃ vv_ LL_, oo_ = .returned vv_ ∧ Q_rm0 Z zC vF hvF p0 p1 p2 p3 p4 h0 n0 vv_ UV_.heap LL_ ∧ ReturnedEndW s oo_ UV_ LL_ 4 12) T32 (mkF m 185 #[.val (.int p0), .val (.int p1), .val (.int p2), .val (.int p3), .val (.int p4), .val (.int nn), .val (.int fr), .val (.int c0), .val (.int c1), .val (.int c2), .val (.int c3), .val (.ref x_14), .val (.int d0), .val (.int d1), .val (.int d2), .val (.int d3), .val (.int r3), .val (.int r2), .unset, .unset, .unset] [.int r1]) := by
          intro T32 lo32 X32 e32 N32 r1  hj33
          refine own_by (T' := T32) (g' := (mkF m 187 #[.val (.int p0), .val (.int p1), .val (.int p2), .val (.int p3), .val (.int p4), .val (.int nn), .val (.int fr), .val (.int c0), .val (.int c1), .val (.int c2), .val (.int c3), .val (.ref x_14), .val (.int d0), .val (.int d1), .val (.int d2), .val (.int d3), .val (.int r3), .val (.int r2), .val (.int r1), .unset, .unset] [])) (fun _ kt_ => XS.istore X32.here hx rfl (hb hby at_185) rfl (l' := #[.val (.int p0), .val (.int p1), .val (.int p2), .val (.int p3), .val (.int p4), .val (.int nn), .val (.int fr), .val (.int c0), .val (.int c1), .val (.int c2), .val (.int c3), .val (.ref x_14), .val (.int d0), .val (.int d1), .val (.int d2), .val (.int d3), .val (.int r3), .val (.int r2), .val (.int r1), .unset, .unset]) rfl kt_) ?_
          have J34 : ∀ (T34 : State) (lo34 : List Loc) (X34 : Stand p l e room_1 (s.setVm T13.vm) m #[.int p0, .int p1, .int p2, .int p3, .int p4] below meth c T34 lo34 4 12) (e34 : T34.heap = T13.heap) (N34 : Fr n0 lo34) (r0 : Int32), r0 = (if d0 = (0 : Int32) then (0 : Int32) else ((1 : Int32) + r1)) → OGoal p e below (fun oo_ UV_ => ∃ vv_ LL_, oo_ = .returned vv_ ∧ Q_rm0 Z zC vF hvF p0 p1 p2 p3 p4 h0 n0 vv_ UV_.heap LL_ ∧ ReturnedEndW s oo_ UV_ LL_ 4 12) T34 (mkF m 200 #[.val (.int p0), .val (.int p1), .val (.int p2), .val (.int p3), .val (.int p4), .val (.int nn), .val (.int fr), .val (.int c0), .val (.int c1), .val (.int c2), .val (.int c3), .val (.ref x_14), .val (.int d0), .val (.int d1), .val (.int d2), .val (.int d3), .val (.int r3), .val (.int r2), .val (.int r1), .unset, .unset] [.int r0]) := by
           intro T34 lo34 X34 e34 N34 r0  hj35
           refine own_by (T' := T34) (g' := (mkF m 202 #[.val (.int p0), .val (.int p1), .val (.int p2), .val (.int p3), .val (.int p4), .val (.int nn), .val (.int fr), .val (.int c0), .val (.int c1), .val (.int c2), .val (.int c3), .val (.ref x_14), .val (.int d0), .val (.int d1), .val (.int d2), .val (.int d3), .val (.int r3), .val (.int r2), .val (.int r1), .val (.int r0), .unset] [])) (fun _ kt_ => XS.istore X34.here hx rfl (hb hby at_200) rfl (l' := #[.val (.int p0), .val (.int p1), .val (.int p2), .val (.int p3), .val (.int p4), .val (.int nn), .val (.int fr), .val (.int c0), .val (.int c1), .val (.int c2), .val (.int c3), .val (.ref x_14), .val (.int d0), .val (.int d1), .val (.int d2), .val (.int d3), .val (.int r3), .val (.int r2), .val (.int r1), .val (.int r0), .unset]) rfl kt_) ?_
           have J36 : ∀ (T36 : State) (lo36 : List Loc) (X36 : Stand p l e room_1 (s.setVm T13.vm) m #[.int p0, .int p1, .int p2, .int p3, .int p4] below meth c T36 lo36 4 12) (e36 : T36.heap = T13.heap) (N36 : Fr n0 lo36) (ex : Int32), ex = (if fr = (0 : Int32) then r0 else if fr = (1 : Int32) then r1 else if fr = (2 : Int32) then r2 else if fr = (3 : Int32) then r3 else (0 : Int32)) → OGoal p e below (fun oo_ UV_ => ∃ vv_ LL_, oo_ = .returned vv_ ∧ Q_rm0 Z zC vF hvF p0 p1 p2 p3 p4 h0 n0 vv_ UV_.heap LL_ ∧ ReturnedEndW s oo_ UV_ LL_ 4 12) T36 (mkF m 256 #[.val (.int p0), .val (.int p1), .val (.int p2), .val (.int p3), .val (.int p4), .val (.int nn), .val (.int fr), .val (.int c0), .val (.int c1), .val (.int c2), .val (.int c3), .val (.ref x_14), .val (.int d0), .val (.int d1), .val (.int d2), .val (.int d3), .val (.int r3), .val (.int r2), .val (.int r1), .val (.int r0), .val (.int ex)] []) := by
            intro T36 lo36 X36 e36 N36 ex  hj37
            refine own_by (T' := T36) (g' := (mkF m 258 #[.val (.int p0), .val (.int p1), .val (.int p2), .val (.int p3), .val (.int p4), .val (.int nn), .val (.int fr), .val (.int c0), .val (.int c1), .val (.int c2), .val (.int c3), .val (.ref x_14), .val (.int d0), .val (.int d1), .val (.int d2), .val (.int d3), .val (.int r3), .val (.int r2), .val (.int r1), .val (.int r0), .val (.int ex)] [.ref x_14])) (fun _ kt_ => XS.aload X36.here hx rfl (hb hby at_256) rfl rfl kt_) ?_
            refine own_by (T' := T36) (g' := (mkF m 260 #[.val (.int p0), .val (.int p1), .val (.int p2), .val (.int p3), .val (.int p4), .val (.int nn), .val (.int fr), .val (.int c0), .val (.int c1), .val (.int c2), .val (.int c3), .val (.ref x_14), .val (.int d0), .val (.int d1), .val (.int d2), .val (.int d3), .val (.int r3), .val (.int r2), .val (.int r1), .val (.int r0), .val (.int ex)] [.int fr, .ref x_14])) (fun _ kt_ => XS.iload X36.here hx rfl (hb hby at_258) rfl kt_) ?_
            obtain ⟨_, _, ⟨T38, L38, k38, n38⟩, -, X38, ⟨Lc38, hQ38, l38, y38, z38⟩, st38⟩ := Jvm.LawKit.callS X36 hx (y := (⟨"com/example/vestledger/vestledger/journal/JournalDecimals", "digitsFrom", "(Ljava/lang/String;I)I"⟩ : MethodName)) hown13 (mvT hZ13 (ww hw 29 rfl)) (mvT hZ13 (ww hw 30 rfl)) (mvT hZ13 (ww hw 31 rfl)) (mvT hZ13 (ww hw 32 rfl)) (by decide) (backOf (W := 0) (rmDG l Z a0 hw [] zC vF hvF GS x_14 t_15 kB_16 nn fr c0 c1 c2 c3 T13.heap n0 (by omega) oo18 p13_1 p13_2 p13_3 p13_4 hnf_ ok0 ok1 ok2 ok3) hZ13 (ww hw 32 rfl) (ww hw 31 rfl) (by decide) (by decide)) (g := (mkF m 260 #[.val (.int p0), .val (.int p1), .val (.int p2), .val (.int p3), .val (.int p4), .val (.int nn), .val (.int fr), .val (.int c0), .val (.int c1), .val (.int c2), .val (.int c3), .val (.ref x_14), .val (.int d0), .val (.int d1), .val (.int d2), .val (.int d3), .val (.int r3), .val (.int r2), .val (.int r1), .val (.int r0), .val (.int ex)] [.int fr, .ref x_14])) rfl (by rw [hml]; rfl) (argsL := [.ref x_14, .int fr]) (rest := []) (lenOf own_pd_13 rfl) rfl (by show 2 * 0 + _ ≤ _; exact Nat.le_of_eq rfl) (hb hby at_260) (fun _ _ => ⟨rfl, e36, (by decide : 4 + 0 ≤ _), (by decide : 12 + 0 ≤ _)⟩)
            dsimp only [Pt.U, Pt.locs, Pt.cells, Pt.slots] at X38 l38 y38 z38 st38 hQ38
            subst l38 y38 z38
            obtain ⟨rfl, N38q, e38⟩ := hQ38
            have N39 := Fr.app N36 N38q
            refine own_by (T' := T38) (g' := (mkF m 263 #[.val (.int p0), .val (.int p1), .val (.int p2), .val (.int p3), .val (.int p4), .val (.int nn), .val (.int fr), .val (.int c0), .val (.int c1), .val (.int c2), .val (.int c3), .val (.ref x_14), .val (.int d0), .val (.int d1), .val (.int d2), .val (.int d3), .val (.int r3), .val (.int r2), .val (.int r1), .val (.int r0), .val (.int ex)] [(.int (runF nn fr c0 c1 c2 c3))])) st38 ?_
            refine own_by (T' := T38) (g' := (mkF m 265 #[.val (.int p0), .val (.int p1), .val (.int p2), .val (.int p3), .val (.int p4), .val (.int nn), .val (.int fr), .val (.int c0), .val (.int c1), .val (.int c2), .val (.int c3), .val (.ref x_14), .val (.int d0), .val (.int d1), .val (.int d2), .val (.int d3), .val (.int r3), .val (.int r2), .val (.int r1), .val (.int r0), .val (.int ex)] [.int ex, (.int (runF nn fr c0 c1 c2 c3))])) (fun _ kt_ => XS.iload X38.here hx rfl (hb hby at_263) rfl kt_) ?_
            refine own_by (T' := T38) (g' := (mkF m 268 #[.val (.int p0), .val (.int p1), .val (.int p2), .val (.int p3), .val (.int p4), .val (.int nn), .val (.int fr), .val (.int c0), .val (.int c1), .val (.int c2), .val (.int c3), .val (.ref x_14), .val (.int d0), .val (.int d1), .val (.int d2), .val (.int d3), .val (.int r3), .val (.int r2), .val (.int r1), .val (.int r0), .val (.int ex)] [])) (fun _ kt_ => XS.icmpNo X38.here hx rfl (hb hby at_265) rfl (XT.ii_ne_f (own_final _ _ _ _ _ _ _ _ _ _ _ _ _ _ _ hnf_ hj21 hj23 hj25 hj27 hj29 hj31 hj33 hj35 hj37)) kt_) ?_
            refine own_by (T' := T38) (g' := (mkF m 269 #[.val (.int p0), .val (.int p1), .val (.int p2), .val (.int p3), .val (.int p4), .val (.int nn), .val (.int fr), .val (.int c0), .val (.int c1), .val (.int c2), .val (.int c3), .val (.ref x_14), .val (.int d0), .val (.int d1), .val (.int d2), .val (.int d3), .val (.int r3), .val (.int r2), .val (.int r1), .val (.int r0), .val (.int ex)] [.int 1])) (fun _ kt_ => XS.iconst X38.here hx rfl (hb hby at_268) kt_) ?_
            refine own_by (T' := T38) (g' := (mkF m 273 #[.val (.int p0), .val (.int p1), .val (.int p2), .val (.int p3), .val (.int p4), .val (.int nn), .val (.int fr), .val (.int c0), .val (.int c1), .val (.int c2), .val (.int c3), .val (.ref x_14), .val (.int d0), .val (.int d1), .val (.int d2), .val (.int d3), .val (.int r3), .val (.int r2), .val (.int r1), .val (.int r0), .val (.int ex)] [.int 1])) (fun _ kt_ => XS.goto X38.here hx rfl (pc0 := 269) (pc' := 273) rfl (hb hby at_269) (by decide) (by decide) kt_) ?_
            have hn40 : nar .boolean (1 : Int32) = (1 : Int32) := rfl
            obtain ⟨fs41, hr41, hrun41, hended41, hW41⟩ := X38.leaveW hS13 (by rw [e38]; omega) (v := some (.int (nar .boolean (1 : Int32)))) (fun h => by rw [Bd.returns] at h; cases h)
            refine ⟨_, _, retN X38 hx (t := .boolean) Bd.returns (by simp) (hb hby at_273) hr41, hrun41, hended41, _, _, rfl, ?_, hW41.1, hW41.2.1, hW41.2.2.1, hW41.2.2.2.mono (by decide) (by decide)⟩
            show Q_rm0 Z zC vF hvF p0 p1 p2 p3 p4 h0 n0 _ T38.heap _
            exact ⟨(congrArg (fun z => some (Value.int z)) hn40), N39⟩
           refine own_by (T' := T34) (g' := (mkF m 204 #[.val (.int p0), .val (.int p1), .val (.int p2), .val (.int p3), .val (.int p4), .val (.int nn), .val (.int fr), .val (.int c0), .val (.int c1), .val (.int c2), .val (.int c3), .val (.ref x_14), .val (.int d0), .val (.int d1), .val (.int d2), .val (.int d3), .val (.int r3), .val (.int r2), .val (.int r1), .val (.int r0), .unset] [.int fr])) (fun _ kt_ => XS.iload X34.here hx rfl (hb hby at_202) rfl kt_) ?_
           by_cases hc42 : fr = (0 : Int32)
           ·refine own_by (T' := T34) (g' := (mkF m 207 #[.val (.int p0), .val (.int p1), .val (.int p2), .val (.int p3), .val (.int p4), .val (.int nn), .val (.int fr), .val (.int c0), .val (.int c1), .val (.int c2), .val (.int c3), .val (.ref x_14), .val (.int d0), .val (.int d1), .val (.int d2), .val (.int d3), .val (.int r3), .val (.int r2), .val (.int r1), .val (.int r0), .unset] [])) (fun _ kt_ => XS.ifNo X34.here hx rfl (hb hby at_204) rfl (XT.i0_ne_f hc42) kt_) ?_
            refine own_by (T' := T34) (g' := (mkF m 209 #[.val (.int p0), .val (.int p1), .val (.int p2), .val (.int p3), .val (.int p4), .val (.int nn), .val (.int fr), .val (.int c0), .val (.int c1), .val (.int c2), .val (.int c3), .val (.ref x_14), .val (.int d0), .val (.int d1), .val (.int d2), .val (.int d3), .val (.int r3), .val (.int r2), .val (.int r1), .val (.int r0), .unset] [.int r0])) (fun _ kt_ => XS.iload X34.here hx rfl (hb hby at_207) rfl kt_) ?_
            refine own_by (T' := T34) (g' := (mkF m 211 #[.val (.int p0), .val (.int p1), .val (.int p2), .val (.int p3), .val (.int p4), .val (.int nn), .val (.int fr), .val (.int c0), .val (.int c1), .val (.int c2), .val (.int c3), .val (.ref x_14), .val (.int d0), .val (.int d1), .val (.int d2), .val (.int d3), .val (.int r3), .val (.int r2), .val (.int r1), .val (.int r0), .val (.int r0)] [])) (fun _ kt_ => XS.istore X34.here hx rfl (hb hby at_209) rfl (l' := #[.val (.int p0), .val (.int p1), .val (.int p2), .val (.int p3), .val (.int p4), .val (.int nn), .val (.int fr), .val (.int c0), .val (.int c1), .val (.int c2), .val (.int c3), .val (.ref x_14), .val (.int d0), .val (.int d1), .val (.int d2), .val (.int d3), .val (.int r3), .val (.int r2), .val (.int r1), .val (.int r0), .val (.int r0)]) rfl kt_) ?_
            refine own_by (T' := T34) (g' := (mkF m 256 #[.val (.int p0), .val (.int p1), .val (.int p2), .val (.int p3), .val (.int p4), .val (.int nn), .val (.int fr), .val (.int c0), .val (.int c1), .val (.int c2), .val (.int c3), .val (.ref x_14), .val (.int d0), .val (.int d1), .val (.int d2), .val (.int d3), .val (.int r3), .val (.int r2), .val (.int r1), .val (.int r0), .val (.int r0)] [])) (fun _ kt_ => XS.goto X34.here hx rfl (pc0 := 211) (pc' := 256) rfl (hb hby at_211) (by decide) (by decide) kt_) ?_
            exact J36 T34 _  X34 e34  N34 r0  (by simp [hc42])
           ·refine own_by (T' := T34) (g' := (mkF m 214 #[.val (.int p0), .val (.int p1), .val (.int p2), .val (.int p3), .val (.int p4), .val (.int nn), .val (.int fr), .val (.int c0), .val (.int c1), .val (.int c2), .val (.int c3), .val (.ref x_14), .val (.int d0), .val (.int d1), .val (.int d2), .val (.int d3), .val (.int r3), .val (.int r2), .val (.int r1), .val (.int r0), .unset] [])) (fun _ kt_ => XS.ifYes X34.here hx rfl (pc0 := 204) (pc' := 214) rfl (hb hby at_204) rfl (XT.i0_ne_t hc42) (by decide) (by decide) kt_) ?_
            refine own_by (T' := T34) (g' := (mkF m 216 #[.val (.int p0), .val (.int p1), .val (.int p2), .val (.int p3), .val (.int p4), .val (.int nn), .val (.int fr), .val (.int c0), .val (.int c1), .val (.int c2), .val (.int c3), .val (.ref x_14), .val (.int d0), .val (.int d1), .val (.int d2), .val (.int d3), .val (.int r3), .val (.int r2), .val (.int r1), .val (.int r0), .unset] [.int fr])) (fun _ kt_ => XS.iload X34.here hx rfl (hb hby at_214) rfl kt_) ?_
            refine own_by (T' := T34) (g' := (mkF m 217 #[.val (.int p0), .val (.int p1), .val (.int p2), .val (.int p3), .val (.int p4), .val (.int nn), .val (.int fr), .val (.int c0), .val (.int c1), .val (.int c2), .val (.int c3), .val (.ref x_14), .val (.int d0), .val (.int d1), .val (.int d2), .val (.int d3), .val (.int r3), .val (.int r2), .val (.int r1), .val (.int r0), .unset] [.int 1, .int fr])) (fun _ kt_ => XS.iconst X34.here hx rfl (hb hby at_216) kt_) ?_
            by_cases hc43 : fr = (1 : Int32)
            ·refine own_by (T' := T34) (g' := (mkF m 220 #[.val (.int p0), .val (.int p1), .val (.int p2), .val (.int p3), .val (.int p4), .val (.int nn), .val (.int fr), .val (.int c0), .val (.int c1), .val (.int c2), .val (.int c3), .val (.ref x_14), .val (.int d0), .val (.int d1), .val (.int d2), .val (.int d3), .val (.int r3), .val (.int r2), .val (.int r1), .val (.int r0), .unset] [])) (fun _ kt_ => XS.icmpNo X34.here hx rfl (hb hby at_217) rfl (XT.ii_ne_f hc43) kt_) ?_
             refine own_by (T' := T34) (g' := (mkF m 222 #[.val (.int p0), .val (.int p1), .val (.int p2), .val (.int p3), .val (.int p4), .val (.int nn), .val (.int fr), .val (.int c0), .val (.int c1), .val (.int c2), .val (.int c3), .val (.ref x_14), .val (.int d0), .val (.int d1), .val (.int d2), .val (.int d3), .val (.int r3), .val (.int r2), .val (.int r1), .val (.int r0), .unset] [.int r1])) (fun _ kt_ => XS.iload X34.here hx rfl (hb hby at_220) rfl kt_) ?_
             refine own_by (T' := T34) (g' := (mkF m 224 #[.val (.int p0), .val (.int p1), .val (.int p2), .val (.int p3), .val (.int p4), .val (.int nn), .val (.int fr), .val (.int c0), .val (.int c1), .val (.int c2), .val (.int c3), .val (.ref x_14), .val (.int d0), .val (.int d1), .val (.int d2), .val (.int d3), .val (.int r3), .val (.int r2), .val (.int r1), .val (.int r0), .val (.int r1)] [])) (fun _ kt_ => XS.istore X34.here hx rfl (hb hby at_222) rfl (l' := #[.val (.int p0), .val (.int p1), .val (.int p2), .val (.int p3), .val (.int p4), .val (.int nn), .val (.int fr), .val (.int c0), .val (.int c1), .val (.int c2), .val (.int c3), .val (.ref x_14), .val (.int d0), .val (.int d1), .val (.int d2), .val (.int d3), .val (.int r3), .val (.int r2), .val (.int r1), .val (.int r0), .val (.int r1)]) rfl kt_) ?_
             refine own_by (T' := T34) (g' := (mkF m 256 #[.val (.int p0), .val (.int p1), .val (.int p2), .val (.int p3), .val (.int p4), .val (.int nn), .val (.int fr), .val (.int c0), .val (.int c1), .val (.int c2), .val (.int c3), .val (.ref x_14), .val (.int d0), .val (.int d1), .val (.int d2), .val (.int d3), .val (.int r3), .val (.int r2), .val (.int r1), .val (.int r0), .val (.int r1)] [])) (fun _ kt_ => XS.goto X34.here hx rfl (pc0 := 224) (pc' := 256) rfl (hb hby at_224) (by decide) (by decide) kt_) ?_
             exact J36 T34 _  X34 e34  N34 r1  (by simp [hc42, hc43])
            ·refine own_by (T' := T34) (g' := (mkF m 227 #[.val (.int p0), .val (.int p1), .val (.int p2), .val (.int p3), .val (.int p4), .val (.int nn), .val (.int fr), .val (.int c0), .val (.int c1), .val (.int c2), .val (.int c3), .val (.ref x_14), .val (.int d0), .val (.int d1), .val (.int d2), .val (.int d3), .val (.int r3), .val (.int r2), .val (.int r1), .val (.int r0), .unset] [])) (fun _ kt_ => XS.icmpYes X34.here hx rfl (pc0 := 217) (pc' := 227) rfl (hb hby at_217) rfl (XT.ii_ne_t hc43) (by decide) (by decide) kt_) ?_
             refine own_by (T' := T34) (g' := (mkF m 229 #[.val (.int p0), .val (.int p1), .val (.int p2), .val (.int p3), .val (.int p4), .val (.int nn), .val (.int fr), .val (.int c0), .val (.int c1), .val (.int c2), .val (.int c3), .val (.ref x_14), .val (.int d0), .val (.int d1), .val (.int d2), .val (.int d3), .val (.int r3), .val (.int r2), .val (.int r1), .val (.int r0), .unset] [.int fr])) (fun _ kt_ => XS.iload X34.here hx rfl (hb hby at_227) rfl kt_) ?_
             refine own_by (T' := T34) (g' := (mkF m 230 #[.val (.int p0), .val (.int p1), .val (.int p2), .val (.int p3), .val (.int p4), .val (.int nn), .val (.int fr), .val (.int c0), .val (.int c1), .val (.int c2), .val (.int c3), .val (.ref x_14), .val (.int d0), .val (.int d1), .val (.int d2), .val (.int d3), .val (.int r3), .val (.int r2), .val (.int r1), .val (.int r0), .unset] [.int 2, .int fr])) (fun _ kt_ => XS.iconst X34.here hx rfl (hb hby at_229) kt_) ?_
             by_cases hc44 : fr = (2 : Int32)
             ·refine own_by (T' := T34) (g' := (mkF m 233 #[.val (.int p0), .val (.int p1), .val (.int p2), .val (.int p3), .val (.int p4), .val (.int nn), .val (.int fr), .val (.int c0), .val (.int c1), .val (.int c2), .val (.int c3), .val (.ref x_14), .val (.int d0), .val (.int d1), .val (.int d2), .val (.int d3), .val (.int r3), .val (.int r2), .val (.int r1), .val (.int r0), .unset] [])) (fun _ kt_ => XS.icmpNo X34.here hx rfl (hb hby at_230) rfl (XT.ii_ne_f hc44) kt_) ?_
              refine own_by (T' := T34) (g' := (mkF m 235 #[.val (.int p0), .val (.int p1), .val (.int p2), .val (.int p3), .val (.int p4), .val (.int nn), .val (.int fr), .val (.int c0), .val (.int c1), .val (.int c2), .val (.int c3), .val (.ref x_14), .val (.int d0), .val (.int d1), .val (.int d2), .val (.int d3), .val (.int r3), .val (.int r2), .val (.int r1), .val (.int r0), .unset] [.int r2])) (fun _ kt_ => XS.iload X34.here hx rfl (hb hby at_233) rfl kt_) ?_
              refine own_by (T' := T34) (g' := (mkF m 237 #[.val (.int p0), .val (.int p1), .val (.int p2), .val (.int p3), .val (.int p4), .val (.int nn), .val (.int fr), .val (.int c0), .val (.int c1), .val (.int c2), .val (.int c3), .val (.ref x_14), .val (.int d0), .val (.int d1), .val (.int d2), .val (.int d3), .val (.int r3), .val (.int r2), .val (.int r1), .val (.int r0), .val (.int r2)] [])) (fun _ kt_ => XS.istore X34.here hx rfl (hb hby at_235) rfl (l' := #[.val (.int p0), .val (.int p1), .val (.int p2), .val (.int p3), .val (.int p4), .val (.int nn), .val (.int fr), .val (.int c0), .val (.int c1), .val (.int c2), .val (.int c3), .val (.ref x_14), .val (.int d0), .val (.int d1), .val (.int d2), .val (.int d3), .val (.int r3), .val (.int r2), .val (.int r1), .val (.int r0), .val (.int r2)]) rfl kt_) ?_
              refine own_by (T' := T34) (g' := (mkF m 256 #[.val (.int p0), .val (.int p1), .val (.int p2), .val (.int p3), .val (.int p4), .val (.int nn), .val (.int fr), .val (.int c0), .val (.int c1), .val (.int c2), .val (.int c3), .val (.ref x_14), .val (.int d0), .val (.int d1), .val (.int d2), .val (.int d3), .val (.int r3), .val (.int r2), .val (.int r1), .val (.int r0), .val (.int r2)] [])) (fun _ kt_ => XS.goto X34.here hx rfl (pc0 := 237) (pc' := 256) rfl (hb hby at_237) (by decide) (by decide) kt_) ?_
              exact J36 T34 _  X34 e34  N34 r2  (by simp [hc42, hc43, hc44])
             ·refine own_by (T' := T34) (g' := (mkF m 240 #[.val (.int p0), .val (.int p1), .val (.int p2), .val (.int p3), .val (.int p4), .val (.int nn), .val (.int fr), .val (.int c0), .val (.int c1), .val (.int c2), .val (.int c3), .val (.ref x_14), .val (.int d0), .val (.int d1), .val (.int d2), .val (.int d3), .val (.int r3), .val (.int r2), .val (.int r1), .val (.int r0), .unset] [])) (fun _ kt_ => XS.icmpYes X34.here hx rfl (pc0 := 230) (pc' := 240) rfl (hb hby at_230) rfl (XT.ii_ne_t hc44) (by decide) (by decide) kt_) ?_
              refine own_by (T' := T34) (g' := (mkF m 242 #[.val (.int p0), .val (.int p1), .val (.int p2), .val (.int p3), .val (.int p4), .val (.int nn), .val (.int fr), .val (.int c0), .val (.int c1), .val (.int c2), .val (.int c3), .val (.ref x_14), .val (.int d0), .val (.int d1), .val (.int d2), .val (.int d3), .val (.int r3), .val (.int r2), .val (.int r1), .val (.int r0), .unset] [.int fr])) (fun _ kt_ => XS.iload X34.here hx rfl (hb hby at_240) rfl kt_) ?_
              refine own_by (T' := T34) (g' := (mkF m 243 #[.val (.int p0), .val (.int p1), .val (.int p2), .val (.int p3), .val (.int p4), .val (.int nn), .val (.int fr), .val (.int c0), .val (.int c1), .val (.int c2), .val (.int c3), .val (.ref x_14), .val (.int d0), .val (.int d1), .val (.int d2), .val (.int d3), .val (.int r3), .val (.int r2), .val (.int r1), .val (.int r0), .unset] [.int 3, .int fr])) (fun _ kt_ => XS.iconst X34.here hx rfl (hb hby at_242) kt_) ?_
              by_cases hc45 : fr = (3 : Int32)
              ·refine own_by (T' := T34) (g' := (mkF m 246 #[.val (.int p0), .val (.int p1), .val (.int p2), .val (.int p3), .val (.int p4), .val (.int nn), .val (.int fr), .val (.int c0), .val (.int c1), .val (.int c2), .val (.int c3), .val (.ref x_14), .val (.int d0), .val (.int d1), .val (.int d2), .val (.int d3), .val (.int r3), .val (.int r2), .val (.int r1), .val (.int r0), .unset] [])) (fun _ kt_ => XS.icmpNo X34.here hx rfl (hb hby at_243) rfl (XT.ii_ne_f hc45) kt_) ?_
               refine own_by (T' := T34) (g' := (mkF m 248 #[.val (.int p0), .val (.int p1), .val (.int p2), .val (.int p3), .val (.int p4), .val (.int nn), .val (.int fr), .val (.int c0), .val (.int c1), .val (.int c2), .val (.int c3), .val (.ref x_14), .val (.int d0), .val (.int d1), .val (.int d2), .val (.int d3), .val (.int r3), .val (.int r2), .val (.int r1), .val (.int r0), .unset] [.int r3])) (fun _ kt_ => XS.iload X34.here hx rfl (hb hby at_246) rfl kt_) ?_
               refine own_by (T' := T34) (g' := (mkF m 250 #[.val (.int p0), .val (.int p1), .val (.int p2), .val (.int p3), .val (.int p4), .val (.int nn), .val (.int fr), .val (.int c0), .val (.int c1), .val (.int c2), .val (.int c3), .val (.ref x_14), .val (.int d0), .val (.int d1), .val (.int d2), .val (.int d3), .val (.int r3), .val (.int r2), .val (.int r1), .val (.int r0), .val (.int r3)] [])) (fun _ kt_ => XS.istore X34.here hx rfl (hb hby at_248) rfl (l' := #[.val (.int p0), .val (.int p1), .val (.int p2), .val (.int p3), .val (.int p4), .val (.int nn), .val (.int fr), .val (.int c0), .val (.int c1), .val (.int c2), .val (.int c3), .val (.ref x_14), .val (.int d0), .val (.int d1), .val (.int d2), .val (.int d3), .val (.int r3), .val (.int r2), .val (.int r1), .val (.int r0), .val (.int r3)]) rfl kt_) ?_
               refine own_by (T' := T34) (g' := (mkF m 256 #[.val (.int p0), .val (.int p1), .val (.int p2), .val (.int p3), .val (.int p4), .val (.int nn), .val (.int fr), .val (.int c0), .val (.int c1), .val (.int c2), .val (.int c3), .val (.ref x_14), .val (.int d0), .val (.int d1), .val (.int d2), .val (.int d3), .val (.int r3), .val (.int r2), .val (.int r1), .val (.int r0), .val (.int r3)] [])) (fun _ kt_ => XS.goto X34.here hx rfl (pc0 := 250) (pc' := 256) rfl (hb hby at_250) (by decide) (by decide) kt_) ?_
               exact J36 T34 _  X34 e34  N34 r3  (by simp [hc42, hc43, hc44, hc45])
              ·refine own_by (T' := T34) (g' := (mkF m 253 #[.val (.int p0), .val (.int p1), .val (.int p2), .val (.int p3), .val (.int p4), .val (.int nn), .val (.int fr), .val (.int c0), .val (.int c1), .val (.int c2), .val (.int c3), .val (.ref x_14), .val (.int d0), .val (.int d1), .val (.int d2), .val (.int d3), .val (.int r3), .val (.int r2), .val (.int r1), .val (.int r0), .unset] [])) (fun _ kt_ => XS.icmpYes X34.here hx rfl (pc0 := 243) (pc' := 253) rfl (hb hby at_243) rfl (XT.ii_ne_t hc45) (by decide) (by decide) kt_) ?_
               refine own_by (T' := T34) (g' := (mkF m 254 #[.val (.int p0), .val (.int p1), .val (.int p2), .val (.int p3), .val (.int p4), .val (.int nn), .val (.int fr), .val (.int c0), .val (.int c1), .val (.int c2), .val (.int c3), .val (.ref x_14), .val (.int d0), .val (.int d1), .val (.int d2), .val (.int d3), .val (.int r3), .val (.int r2), .val (.int r1), .val (.int r0), .unset] [.int 0])) (fun _ kt_ => XS.iconst X34.here hx rfl (hb hby at_253) kt_) ?_
               refine own_by (T' := T34) (g' := (mkF m 256 #[.val (.int p0), .val (.int p1), .val (.int p2), .val (.int p3), .val (.int p4), .val (.int nn), .val (.int fr), .val (.int c0), .val (.int c1), .val (.int c2), .val (.int c3), .val (.ref x_14), .val (.int d0), .val (.int d1), .val (.int d2), .val (.int d3), .val (.int r3), .val (.int r2), .val (.int r1), .val (.int r0), .val (.int 0)] [])) (fun _ kt_ => XS.istore X34.here hx rfl (hb hby at_254) rfl (l' := #[.val (.int p0), .val (.int p1), .val (.int p2), .val (.int p3), .val (.int p4), .val (.int nn), .val (.int fr), .val (.int c0), .val (.int c1), .val (.int c2), .val (.int c3), .val (.ref x_14), .val (.int d0), .val (.int d1), .val (.int d2), .val (.int d3), .val (.int r3), .val (.int r2), .val (.int r1), .val (.int r0), .val (.int 0)]) rfl kt_) ?_
               exact J36 T34 _  X34 e34  N34 (0 : Int32)  (by simp [hc42, hc43, hc44, hc45])
          refine own_by (T' := T32) (g' := (mkF m 189 #[.val (.int p0), .val (.int p1), .val (.int p2), .val (.int p3), .val (.int p4), .val (.int nn), .val (.int fr), .val (.int c0), .val (.int c1), .val (.int c2), .val (.int c3), .val (.ref x_14), .val (.int d0), .val (.int d1), .val (.int d2), .val (.int d3), .val (.int r3), .val (.int r2), .val (.int r1), .unset, .unset] [.int d0])) (fun _ kt_ => XS.iload X32.here hx rfl (hb hby at_187) rfl kt_) ?_
          by_cases hc46 : d0 = (0 : Int32)
          ·refine own_by (T' := T32) (g' := (mkF m 199 #[.val (.int p0), .val (.int p1), .val (.int p2), .val (.int p3), .val (.int p4), .val (.int nn), .val (.int fr), .val (.int c0), .val (.int c1), .val (.int c2), .val (.int c3), .val (.ref x_14), .val (.int d0), .val (.int d1), .val (.int d2), .val (.int d3), .val (.int r3), .val (.int r2), .val (.int r1), .unset, .unset] [])) (fun _ kt_ => XS.ifYes X32.here hx rfl (pc0 := 189) (pc' := 199) rfl (hb hby at_189) rfl (XT.i0_eq_t hc46) (by decide) (by decide) kt_) ?_
           refine own_by (T' := T32) (g' := (mkF m 200 #[.val (.int p0), .val (.int p1), .val (.int p2), .val (.int p3), .val (.int p4), .val (.int nn), .val (.int fr), .val (.int c0), .val (.int c1), .val (.int c2), .val (.int c3), .val (.ref x_14), .val (.int d0), .val (.int d1), .val (.int d2), .val (.int d3), .val (.int r3), .val (.int r2), .val (.int r1), .unset, .unset] [.int 0])) (fun _ kt_ => XS.iconst X32.here hx rfl (hb hby at_199) kt_) ?_
           exact J34 T32 _  X32 e32  N32 (0 : Int32)  (by simp [hc46])
          ·refine own_by (T' := T32) (g' := (mkF m 192 #[.val (.int p0), .val (.int p1), .val (.int p2), .val (.int p3), .val (.int p4), .val (.int nn), .val (.int fr), .val (.int c0), .val (.int c1), .val (.int c2), .val (.int c3), .val (.ref x_14), .val (.int d0), .val (.int d1), .val (.int d2), .val (.int d3), .val (.int r3), .val (.int r2), .val (.int r1), .unset, .unset] [])) (fun _ kt_ => XS.ifNo X32.here hx rfl (hb hby at_189) rfl (XT.i0_eq_f hc46) kt_) ?_
           refine own_by (T' := T32) (g' := (mkF m 193 #[.val (.int p0), .val (.int p1), .val (.int p2), .val (.int p3), .val (.int p4), .val (.int nn), .val (.int fr), .val (.int c0), .val (.int c1), .val (.int c2), .val (.int c3), .val (.ref x_14), .val (.int d0), .val (.int d1), .val (.int d2), .val (.int d3), .val (.int r3), .val (.int r2), .val (.int r1), .unset, .unset] [.int 1])) (fun _ kt_ => XS.iconst X32.here hx rfl (hb hby at_192) kt_) ?_
           refine own_by (T' := T32) (g' := (mkF m 195 #[.val (.int p0), .val (.int p1), .val (.int p2), .val (.int p3), .val (.int p4), .val (.int nn), .val (.int fr), .val (.int c0), .val (.int c1), .val (.int c2), .val (.int c3), .val (.ref x_14), .val (.int d0), .val (.int d1), .val (.int d2), .val (.int d3), .val (.int r3), .val (.int r2), .val (.int r1), .unset, .unset] [.int r1, .int 1])) (fun _ kt_ => XS.iload X32.here hx rfl (hb hby at_193) rfl kt_) ?_
           refine own_by (T' := T32) (g' := (mkF m 196 #[.val (.int p0), .val (.int p1), .val (.int p2), .val (.int p3), .val (.int p4), .val (.int nn), .val (.int fr), .val (.int c0), .val (.int c1), .val (.int c2), .val (.int c3), .val (.ref x_14), .val (.int d0), .val (.int d1), .val (.int d2), .val (.int d3), .val (.int r3), .val (.int r2), .val (.int r1), .unset, .unset] [(.int ((1 : Int32) + r1))])) (fun _ kt_ => XS.iadd X32.here hx rfl (hb hby at_195) rfl kt_) ?_
           refine own_by (T' := T32) (g' := (mkF m 200 #[.val (.int p0), .val (.int p1), .val (.int p2), .val (.int p3), .val (.int p4), .val (.int nn), .val (.int fr), .val (.int c0), .val (.int c1), .val (.int c2), .val (.int c3), .val (.ref x_14), .val (.int d0), .val (.int d1), .val (.int d2), .val (.int d3), .val (.int r3), .val (.int r2), .val (.int r1), .unset, .unset] [(.int ((1 : Int32) + r1))])) (fun _ kt_ => XS.goto X32.here hx rfl (pc0 := 196) (pc' := 200) rfl (hb hby at_196) (by decide) (by decide) kt_) ?_
           exact J34 T32 _  X32 e32  N32 ((1 : Int32) + r1)  (by simp [hc46])
         refine own_by (T' := T30) (g' := (mkF m 174 #[.val (.int p0), .val (.int p1), .val (.int p2), .val (.int p3), .val (.int p4), .val (.int nn), .val (.int fr), .val (.int c0), .val (.int c1), .val (.int c2), .val (.int c3), .val (.ref x_14), .val (.int d0), .val (.int d1), .val (.int d2), .val (.int d3), .val (.int r3), .val (.int r2), .unset, .unset, .unset] [.int d1])) (fun _ kt_ => XS.iload X30.here hx rfl (hb hby at_172) rfl kt_) ?_
         by_cases hc47 : d1 = (0 : Int32)
         ·refine own_by (T' := T30) (g' := (mkF m 184 #[.val (.int p0), .val (.int p1), .val (.int p2), .val (.int p3), .val (.int p4), .val (.int nn), .val (.int fr), .val (.int c0), .val (.int c1), .val (.int c2), .val (.int c3), .val (.ref x_14), .val (.int d0), .val (.int d1), .val (.int d2), .val (.int d3), .val (.int r3), .val (.int r2), .unset, .unset, .unset] [])) (fun _ kt_ => XS.ifYes X30.here hx rfl (pc0 := 174) (pc' := 184) rfl (hb hby at_174) rfl (XT.i0_eq_t hc47) (by decide) (by decide) kt_) ?_
          refine own_by (T' := T30) (g' := (mkF m 185 #[.val (.int p0), .val (.int p1), .val (.int p2), .val (.int p3), .val (.int p4), .val (.int nn), .val (.int fr), .val (.int c0), .val (.int c1), .val (.int c2), .val (.int c3), .val (.ref x_14), .val (.int d0), .val (.int d1), .val (.int d2), .val (.int d3), .val (.int r3), .val (.int r2), .unset, .unset, .unset] [.int 0])) (fun _ kt_ => XS.iconst X30.here hx rfl (hb hby at_184) kt_) ?_
          exact J32 T30 _  X30 e30  N30 (0 : Int32)  (by simp [hc47])
         ·refine own_by (T' := T30) (g' := (mkF m 177 #[.val (.int p0), .val (.int p1), .val (.int p2), .val (.int p3), .val (.int p4), .val (.int nn), .val (.int fr), .val (.int c0), .val (.int c1), .val (.int c2), .val (.int c3), .val (.ref x_14), .val (.int d0), .val (.int d1), .val (.int d2), .val (.int d3), .val (.int r3), .val (.int r2), .unset, .unset, .unset] [])) (fun _ kt_ => XS.ifNo X30.here hx rfl (hb hby at_174) rfl (XT.i0_eq_f hc47) kt_) ?_
          refine own_by (T' := T30) (g' := (mkF m 178 #[.val (.int p0), .val (.int p1), .val (.int p2), .val (.int p3), .val (.int p4), .val (.int nn), .val (.int fr), .val (.int c0), .val (.int c1), .val (.int c2), .val (.int c3), .val (.ref x_14), .val (.int d0), .val (.int d1), .val (.int d2), .val (.int d3), .val (.int r3), .val (.int r2), .unset, .unset, .unset] [.int 1])) (fun _ kt_ => XS.iconst X30.here hx rfl (hb hby at_177) kt_) ?_
          refine own_by (T' := T30) (g' := (mkF m 180 #[.val (.int p0), .val (.int p1), .val (.int p2), .val (.int p3), .val (.int p4), .val (.int nn), .val (.int fr), .val (.int c0), .val (.int c1), .val (.int c2), .val (.int c3), .val (.ref x_14), .val (.int d0), .val (.int d1), .val (.int d2), .val (.int d3), .val (.int r3), .val (.int r2), .unset, .unset, .unset] [.int r2, .int 1])) (fun _ kt_ => XS.iload X30.here hx rfl (hb hby at_178) rfl kt_) ?_
          refine own_by (T' := T30) (g' := (mkF m 181 #[.val (.int p0), .val (.int p1), .val (.int p2), .val (.int p3), .val (.int p4), .val (.int nn), .val (.int fr), .val (.int c0), .val (.int c1), .val (.int c2), .val (.int c3), .val (.ref x_14), .val (.int d0), .val (.int d1), .val (.int d2), .val (.int d3), .val (.int r3), .val (.int r2), .unset, .unset, .unset] [(.int ((1 : Int32) + r2))])) (fun _ kt_ => XS.iadd X30.here hx rfl (hb hby at_180) rfl kt_) ?_
          refine own_by (T' := T30) (g' := (mkF m 185 #[.val (.int p0), .val (.int p1), .val (.int p2), .val (.int p3), .val (.int p4), .val (.int nn), .val (.int fr), .val (.int c0), .val (.int c1), .val (.int c2), .val (.int c3), .val (.ref x_14), .val (.int d0), .val (.int d1), .val (.int d2), .val (.int d3), .val (.int r3), .val (.int r2), .unset, .unset, .unset] [(.int ((1 : Int32) + r2))])) (fun _ kt_ => XS.goto X30.here hx rfl (pc0 := 181) (pc' := 185) rfl (hb hby at_181) (by decide) (by decide) kt_) ?_
          exact J32 T30 _  X30 e30  N30 ((1 : Int32) + r2)  (by simp [hc47])
        refine own_by (T' := T28) (g' := (mkF m 159 #[.val (.int p0), .val (.int p1), .val (.int p2), .val (.int p3), .val (.int p4), .val (.int nn), .val (.int fr), .val (.int c0), .val (.int c1), .val (.int c2), .val (.int c3), .val (.ref x_14), .val (.int d0), .val (.int d1), .val (.int d2), .val (.int d3), .val (.int r3), .unset, .unset, .unset, .unset] [.int d2])) (fun _ kt_ => XS.iload X28.here hx rfl (hb hby at_157) rfl kt_) ?_
        by_cases hc48 : d2 = (0 : Int32)
        ·refine own_by (T' := T28) (g' := (mkF m 169 #[.val (.int p0), .val (.int p1), .val (.int p2), .val (.int p3), .val (.int p4), .val (.int nn), .val (.int fr), .val (.int c0), .val (.int c1), .val (.int c2), .val (.int c3), .val (.ref x_14), .val (.int d0), .val (.int d1), .val (.int d2), .val (.int d3), .val (.int r3), .unset, .unset, .unset, .unset] [])) (fun _ kt_ => XS.ifYes X28.here hx rfl (pc0 := 159) (pc' := 169) rfl (hb hby at_159) rfl (XT.i0_eq_t hc48) (by decide) (by decide) kt_) ?_
         refine own_by (T' := T28) (g' := (mkF m 170 #[.val (.int p0), .val (.int p1), .val (.int p2), .val (.int p3), .val (.int p4), .val (.int nn), .val (.int fr), .val (.int c0), .val (.int c1), .val (.int c2), .val (.int c3), .val (.ref x_14), .val (.int d0), .val (.int d1), .val (.int d2), .val (.int d3), .val (.int r3), .unset, .unset, .unset, .unset] [.int 0])) (fun _ kt_ => XS.iconst X28.here hx rfl (hb hby at_169) kt_) ?_
         exact J30 T28 _  X28 e28  N28 (0 : Int32)  (by simp [hc48])
        ·refine own_by (T' := T28) (g' := (mkF m 162 #[.val (.int p0), .val (.int p1), .val (.int p2), .val (.int p3), .val (.int p4), .val (.int nn), .val (.int fr), .val (.int c0), .val (.int c1), .val (.int c2), .val (.int c3), .val (.ref x_14), .val (.int d0), .val (.int d1), .val (.int d2), .val (.int d3), .val (.int r3), .unset, .unset, .unset, .unset] [])) (fun _ kt_ => XS.ifNo X28.here hx rfl (hb hby at_159) rfl (XT.i0_eq_f hc48) kt_) ?_
         refine own_by (T' := T28) (g' := (mkF m 163 #[.val (.int p0), .val (.int p1), .val (.int p2), .val (.int p3), .val (.int p4), .val (.int nn), .val (.int fr), .val (.int c0), .val (.int c1), .val (.int c2), .val (.int c3), .val (.ref x_14), .val (.int d0), .val (.int d1), .val (.int d2), .val (.int d3), .val (.int r3), .unset, .unset, .unset, .unset] [.int 1])) (fun _ kt_ => XS.iconst X28.here hx rfl (hb hby at_162) kt_) ?_
         refine own_by (T' := T28) (g' := (mkF m 165 #[.val (.int p0), .val (.int p1), .val (.int p2), .val (.int p3), .val (.int p4), .val (.int nn), .val (.int fr), .val (.int c0), .val (.int c1), .val (.int c2), .val (.int c3), .val (.ref x_14), .val (.int d0), .val (.int d1), .val (.int d2), .val (.int d3), .val (.int r3), .unset, .unset, .unset, .unset] [.int r3, .int 1])) (fun _ kt_ => XS.iload X28.here hx rfl (hb hby at_163) rfl kt_) ?_
         refine own_by (T' := T28) (g' := (mkF m 166 #[.val (.int p0), .val (.int p1), .val (.int p2), .val (.int p3), .val (.int p4), .val (.int nn), .val (.int fr), .val (.int c0), .val (.int c1), .val (.int c2), .val (.int c3), .val (.ref x_14), .val (.int d0), .val (.int d1), .val (.int d2), .val (.int d3), .val (.int r3), .unset, .unset, .unset, .unset] [(.int ((1 : Int32) + r3))])) (fun _ kt_ => XS.iadd X28.here hx rfl (hb hby at_165) rfl kt_) ?_
         refine own_by (T' := T28) (g' := (mkF m 170 #[.val (.int p0), .val (.int p1), .val (.int p2), .val (.int p3), .val (.int p4), .val (.int nn), .val (.int fr), .val (.int c0), .val (.int c1), .val (.int c2), .val (.int c3), .val (.ref x_14), .val (.int d0), .val (.int d1), .val (.int d2), .val (.int d3), .val (.int r3), .unset, .unset, .unset, .unset] [(.int ((1 : Int32) + r3))])) (fun _ kt_ => XS.goto X28.here hx rfl (pc0 := 166) (pc' := 170) rfl (hb hby at_166) (by decide) (by decide) kt_) ?_
         exact J30 T28 _  X28 e28  N28 ((1 : Int32) + r3)  (by simp [hc48])
       refine own_by (T' := T26) (g' := (mkF m 147 #[.val (.int p0), .val (.int p1), .val (.int p2), .val (.int p3), .val (.int p4), .val (.int nn), .val (.int fr), .val (.int c0), .val (.int c1), .val (.int c2), .val (.int c3), .val (.ref x_14), .val (.int d0), .val (.int d1), .val (.int d2), .val (.int d3), .unset, .unset, .unset, .unset, .unset] [.int d3])) (fun _ kt_ => XS.iload X26.here hx rfl (hb hby at_145) rfl kt_) ?_
       by_cases hc49 : d3 = (0 : Int32)
       ·refine own_by (T' := T26) (g' := (mkF m 154 #[.val (.int p0), .val (.int p1), .val (.int p2), .val (.int p3), .val (.int p4), .val (.int nn), .val (.int fr), .val (.int c0), .val (.int c1), .val (.int c2), .val (.int c3), .val (.ref x_14), .val (.int d0), .val (.int d1), .val (.int d2), .val (.int d3), .unset, .unset, .unset, .unset, .unset] [])) (fun _ kt_ => XS.ifYes X26.here hx rfl (pc0 := 147) (pc' := 154) rfl (hb hby at_147) rfl (XT.i0_eq_t hc49) (by decide) (by decide) kt_) ?_
        refine own_by (T' := T26) (g' := (mkF m 155 #[.val (.int p0), .val (.int p1), .val (.int p2), .val (.int p3), .val (.int p4), .val (.int nn), .val (.int fr), .val (.int c0), .val (.int c1), .val (.int c2), .val (.int c3), .val (.ref x_14), .val (.int d0), .val (.int d1), .val (.int d2), .val (.int d3), .unset, .unset, .unset, .unset, .unset] [.int 0])) (fun _ kt_ => XS.iconst X26.here hx rfl (hb hby at_154) kt_) ?_
        exact J28 T26 _  X26 e26  N26 (0 : Int32)  (by simp [hc49])
       ·refine own_by (T' := T26) (g' := (mkF m 150 #[.val (.int p0), .val (.int p1), .val (.int p2), .val (.int p3), .val (.int p4), .val (.int nn), .val (.int fr), .val (.int c0), .val (.int c1), .val (.int c2), .val (.int c3), .val (.ref x_14), .val (.int d0), .val (.int d1), .val (.int d2), .val (.int d3), .unset, .unset, .unset, .unset, .unset] [])) (fun _ kt_ => XS.ifNo X26.here hx rfl (hb hby at_147) rfl (XT.i0_eq_f hc49) kt_) ?_
        refine own_by (T' := T26) (g' := (mkF m 151 #[.val (.int p0), .val (.int p1), .val (.int p2), .val (.int p3), .val (.int p4), .val (.int nn), .val (.int fr), .val (.int c0), .val (.int c1), .val (.int c2), .val (.int c3), .val (.ref x_14), .val (.int d0), .val (.int d1), .val (.int d2), .val (.int d3), .unset, .unset, .unset, .unset, .unset] [.int 1])) (fun _ kt_ => XS.iconst X26.here hx rfl (hb hby at_150) kt_) ?_
        refine own_by (T' := T26) (g' := (mkF m 155 #[.val (.int p0), .val (.int p1), .val (.int p2), .val (.int p3), .val (.int p4), .val (.int nn), .val (.int fr), .val (.int c0), .val (.int c1), .val (.int c2), .val (.int c3), .val (.ref x_14), .val (.int d0), .val (.int d1), .val (.int d2), .val (.int d3), .unset, .unset, .unset, .unset, .unset] [.int 1])) (fun _ kt_ => XS.goto X26.here hx rfl (pc0 := 151) (pc' := 155) rfl (hb hby at_151) (by decide) (by decide) kt_) ?_
        exact J28 T26 _  X26 e26  N26 (1 : Int32)  (by simp [hc49])
      refine own_by (T' := T24) (g' := (mkF m 126 #[.val (.int p0), .val (.int p1), .val (.int p2), .val (.int p3), .val (.int p4), .val (.int nn), .val (.int fr), .val (.int c0), .val (.int c1), .val (.int c2), .val (.int c3), .val (.ref x_14), .val (.int d0), .val (.int d1), .val (.int d2), .unset, .unset, .unset, .unset, .unset, .unset] [.int nn])) (fun _ kt_ => XS.iload X24.here hx rfl (hb hby at_124) rfl kt_) ?_
      refine own_by (T' := T24) (g' := (mkF m 127 #[.val (.int p0), .val (.int p1), .val (.int p2), .val (.int p3), .val (.int p4), .val (.int nn), .val (.int fr), .val (.int c0), .val (.int c1), .val (.int c2), .val (.int c3), .val (.ref x_14), .val (.int d0), .val (.int d1), .val (.int d2), .unset, .unset, .unset, .unset, .unset, .unset] [.int 3, .int nn])) (fun _ kt_ => XS.iconst X24.here hx rfl (hb hby at_126) kt_) ?_
      by_cases hc50 : (3 : Int32) < nn
      ·refine own_by (T' := T24) (g' := (mkF m 130 #[.val (.int p0), .val (.int p1), .val (.int p2), .val (.int p3), .val (.int p4), .val (.int nn), .val (.int fr), .val (.int c0), .val (.int c1), .val (.int c2), .val (.int c3), .val (.ref x_14), .val (.int d0), .val (.int d1), .val (.int d2), .unset, .unset, .unset, .unset, .unset, .unset] [])) (fun _ kt_ => XS.icmpNo X24.here hx rfl (hb hby at_127) rfl (XT.ii_le_f hc50) kt_) ?_
       refine own_by (T' := T24) (g' := (mkF m 132 #[.val (.int p0), .val (.int p1), .val (.int p2), .val (.int p3), .val (.int p4), .val (.int nn), .val (.int fr), .val (.int c0), .val (.int c1), .val (.int c2), .val (.int c3), .val (.ref x_14), .val (.int d0), .val (.int d1), .val (.int d2), .unset, .unset, .unset, .unset, .unset, .unset] [.int c3])) (fun _ kt_ => XS.iload X24.here hx rfl (hb hby at_130) rfl kt_) ?_
       obtain ⟨_, _, ⟨T51, L51, k51, n51⟩, -, X51, ⟨Lc51, hQ51, l51, y51, z51⟩, st51⟩ := Jvm.LawKit.callS X24 hx (y := (⟨"com/example/vestledger/vestledger/journal/JournalDecimalsDigitsFromPinLaw", "isDigit", "(C)Z"⟩ : MethodName)) hown13 (mvT hZ13 (ww hw 54 rfl)) (mvT hZ13 (ww hw 55 rfl)) (mvT hZ13 (ww hw 2 rfl)) (mvT hZ13 (ww hw 56 rfl)) (by decide) (backOf (W := 0) (rmIsD l Z a0 hw [] zC vF hvF GS c3 T13.heap n0 (by omega) oo18 ) hZ13 (ww hw 56 rfl) (ww hw 2 rfl) (by decide) (by decide)) (g := (mkF m 132 #[.val (.int p0), .val (.int p1), .val (.int p2), .val (.int p3), .val (.int p4), .val (.int nn), .val (.int fr), .val (.int c0), .val (.int c1), .val (.int c2), .val (.int c3), .val (.ref x_14), .val (.int d0), .val (.int d1), .val (.int d2), .unset, .unset, .unset, .unset, .unset, .unset] [.int c3])) rfl (by rw [hml]; rfl) (argsL := [.int c3]) (rest := []) (lenOf own_pd_14 rfl) rfl (by show 2 * 0 + _ ≤ _; exact Nat.le_of_eq rfl) (hb hby at_132) (fun _ _ => ⟨rfl, e24, (by decide : 4 + 0 ≤ _), (by decide : 12 + 0 ≤ _)⟩)
       dsimp only [Pt.U, Pt.locs, Pt.cells, Pt.slots] at X51 l51 y51 z51 st51 hQ51
       subst l51 y51 z51
       obtain ⟨rfl, N51q, e51⟩ := hQ51
       have N52 := Fr.app N24 N51q
       refine own_by (T' := T51) (g' := (mkF m 135 #[.val (.int p0), .val (.int p1), .val (.int p2), .val (.int p3), .val (.int p4), .val (.int nn), .val (.int fr), .val (.int c0), .val (.int c1), .val (.int c2), .val (.int c3), .val (.ref x_14), .val (.int d0), .val (.int d1), .val (.int d2), .unset, .unset, .unset, .unset, .unset, .unset] [(.int (isD c3))])) st51 ?_
       by_cases hc53 : (isD c3) = (0 : Int32)
       ·refine own_by (T' := T51) (g' := (mkF m 142 #[.val (.int p0), .val (.int p1), .val (.int p2), .val (.int p3), .val (.int p4), .val (.int nn), .val (.int fr), .val (.int c0), .val (.int c1), .val (.int c2), .val (.int c3), .val (.ref x_14), .val (.int d0), .val (.int d1), .val (.int d2), .unset, .unset, .unset, .unset, .unset, .unset] [])) (fun _ kt_ => XS.ifYes X51.here hx rfl (pc0 := 135) (pc' := 142) rfl (hb hby at_135) rfl (XT.i0_eq_t hc53) (by decide) (by decide) kt_) ?_
        refine own_by (T' := T51) (g' := (mkF m 143 #[.val (.int p0), .val (.int p1), .val (.int p2), .val (.int p3), .val (.int p4), .val (.int nn), .val (.int fr), .val (.int c0), .val (.int c1), .val (.int c2), .val (.int c3), .val (.ref x_14), .val (.int d0), .val (.int d1), .val (.int d2), .unset, .unset, .unset, .unset, .unset, .unset] [.int 0])) (fun _ kt_ => XS.iconst X51.here hx rfl (hb hby at_142) kt_) ?_
        exact J26 T51 _  X51 e51  N52 (0 : Int32)  (by simp [hc50, hc53])
       ·refine own_by (T' := T51) (g' := (mkF m 138 #[.val (.int p0), .val (.int p1), .val (.int p2), .val (.int p3), .val (.int p4), .val (.int nn), .val (.int fr), .val (.int c0), .val (.int c1), .val (.int c2), .val (.int c3), .val (.ref x_14), .val (.int d0), .val (.int d1), .val (.int d2), .unset, .unset, .unset, .unset, .unset, .unset] [])) (fun _ kt_ => XS.ifNo X51.here hx rfl (hb hby at_135) rfl (XT.i0_eq_f hc53) kt_) ?_
        refine own_by (T' := T51) (g' := (mkF m 139 #[.val (.int p0), .val (.int p1), .val (.int p2), .val (.int p3), .val (.int p4), .val (.int nn), .val (.int fr), .val (.int c0), .val (.int c1), .val (.int c2), .val (.int c3), .val (.ref x_14), .val (.int d0), .val (.int d1), .val (.int d2), .unset, .unset, .unset, .unset, .unset, .unset] [.int 1])) (fun _ kt_ => XS.iconst X51.here hx rfl (hb hby at_138) kt_) ?_
        refine own_by (T' := T51) (g' := (mkF m 143 #[.val (.int p0), .val (.int p1), .val (.int p2), .val (.int p3), .val (.int p4), .val (.int nn), .val (.int fr), .val (.int c0), .val (.int c1), .val (.int c2), .val (.int c3), .val (.ref x_14), .val (.int d0), .val (.int d1), .val (.int d2), .unset, .unset, .unset, .unset, .unset, .unset] [.int 1])) (fun _ kt_ => XS.goto X51.here hx rfl (pc0 := 139) (pc' := 143) rfl (hb hby at_139) (by decide) (by decide) kt_) ?_
        exact J26 T51 _  X51 e51  N52 (1 : Int32)  (by simp [hc50, hc53])
      ·refine own_by (T' := T24) (g' := (mkF m 142 #[.val (.int p0), .val (.int p1), .val (.int p2), .val (.int p3), .val (.int p4), .val (.int nn), .val (.int fr), .val (.int c0), .val (.int c1), .val (.int c2), .val (.int c3), .val (.ref x_14), .val (.int d0), .val (.int d1), .val (.int d2), .unset, .unset, .unset, .unset, .unset, .unset] [])) (fun _ kt_ => XS.icmpYes X24.here hx rfl (pc0 := 127) (pc' := 142) rfl (hb hby at_127) rfl (XT.ii_le_t hc50) (by decide) (by decide) kt_) ?_
       refine own_by (T' := T24) (g' := (mkF m 143 #[.val (.int p0), .val (.int p1), .val (.int p2), .val (.int p3), .val (.int p4), .val (.int nn), .val (.int fr), .val (.int c0), .val (.int c1), .val (.int c2), .val (.int c3), .val (.ref x_14), .val (.int d0), .val (.int d1), .val (.int d2), .unset, .unset, .unset, .unset, .unset, .unset] [.int 0])) (fun _ kt_ => XS.iconst X24.here hx rfl (hb hby at_142) kt_) ?_
       exact J26 T24 _  X24 e24  N24 (0 : Int32)  (by simp [hc50])
     refine own_by (T' := T22) (g' := (mkF m 105 #[.val (.int p0), .val (.int p1), .val (.int p2), .val (.int p3), .val (.int p4), .val (.int nn), .val (.int fr), .val (.int c0), .val (.int c1), .val (.int c2), .val (.int c3), .val (.ref x_14), .val (.int d0), .val (.int d1), .unset, .unset, .unset, .unset, .unset, .unset, .unset] [.int nn])) (fun _ kt_ => XS.iload X22.here hx rfl (hb hby at_103) rfl kt_) ?_
     refine own_by (T' := T22) (g' := (mkF m 106 #[.val (.int p0), .val (.int p1), .val (.int p2), .val (.int p3), .val (.int p4), .val (.int nn), .val (.int fr), .val (.int c0), .val (.int c1), .val (.int c2), .val (.int c3), .val (.ref x_14), .val (.int d0), .val (.int d1), .unset, .unset, .unset, .unset, .unset, .unset, .unset] [.int 2, .int nn])) (fun _ kt_ => XS.iconst X22.here hx rfl (hb hby at_105) kt_) ?_
     by_cases hc54 : (2 : Int32) < nn
     ·refine own_by (T' := T22) (g' := (mkF m 109 #[.val (.int p0), .val (.int p1), .val (.int p2), .val (.int p3), .val (.int p4), .val (.int nn), .val (.int fr), .val (.int c0), .val (.int c1), .val (.int c2), .val (.int c3), .val (.ref x_14), .val (.int d0), .val (.int d1), .unset, .unset, .unset, .unset, .unset, .unset, .unset] [])) (fun _ kt_ => XS.icmpNo X22.here hx rfl (hb hby at_106) rfl (XT.ii_le_f hc54) kt_) ?_
      refine own_by (T' := T22) (g' := (mkF m 111 #[.val (.int p0), .val (.int p1), .val (.int p2), .val (.int p3), .val (.int p4), .val (.int nn), .val (.int fr), .val (.int c0), .val (.int c1), .val (.int c2), .val (.int c3), .val (.ref x_14), .val (.int d0), .val (.int d1), .unset, .unset, .unset, .unset, .unset, .unset, .unset] [.int c2])) (fun _ kt_ => XS.iload X22.here hx rfl (hb hby at_109) rfl kt_) ?_
      obtain ⟨_, _, ⟨T55, L55, k55, n55⟩, -, X55, ⟨Lc55, hQ55, l55, y55, z55⟩, st55⟩ := Jvm.LawKit.callS X22 hx (y := (⟨"com/example/vestledger/vestledger/journal/JournalDecimalsDigitsFromPinLaw", "isDigit", "(C)Z"⟩ : MethodName)) hown13 (mvT hZ13 (ww hw 54 rfl)) (mvT hZ13 (ww hw 55 rfl)) (mvT hZ13 (ww hw 2 rfl)) (mvT hZ13 (ww hw 56 rfl)) (by decide) (backOf (W := 0) (rmIsD l Z a0 hw [] zC vF hvF GS c2 T13.heap n0 (by omega) oo18 ) hZ13 (ww hw 56 rfl) (ww hw 2 rfl) (by decide) (by decide)) (g := (mkF m 111 #[.val (.int p0), .val (.int p1), .val (.int p2), .val (.int p3), .val (.int p4), .val (.int nn), .val (.int fr), .val (.int c0), .val (.int c1), .val (.int c2), .val (.int c3), .val (.ref x_14), .val (.int d0), .val (.int d1), .unset, .unset, .unset, .unset, .unset, .unset, .unset] [.int c2])) rfl (by rw [hml]; rfl) (argsL := [.int c2]) (rest := []) (lenOf own_pd_14 rfl) rfl (by show 2 * 0 + _ ≤ _; exact Nat.le_of_eq rfl) (hb hby at_111) (fun _ _ => ⟨rfl, e22, (by decide : 4 + 0 ≤ _), (by decide : 12 + 0 ≤ _)⟩)
      dsimp only [Pt.U, Pt.locs, Pt.cells, Pt.slots] at X55 l55 y55 z55 st55 hQ55
      subst l55 y55 z55
      obtain ⟨rfl, N55q, e55⟩ := hQ55
      have N56 := Fr.app N22 N55q
      refine own_by (T' := T55) (g' := (mkF m 114 #[.val (.int p0), .val (.int p1), .val (.int p2), .val (.int p3), .val (.int p4), .val (.int nn), .val (.int fr), .val (.int c0), .val (.int c1), .val (.int c2), .val (.int c3), .val (.ref x_14), .val (.int d0), .val (.int d1), .unset, .unset, .unset, .unset, .unset, .unset, .unset] [(.int (isD c2))])) st55 ?_
      by_cases hc57 : (isD c2) = (0 : Int32)
      ·refine own_by (T' := T55) (g' := (mkF m 121 #[.val (.int p0), .val (.int p1), .val (.int p2), .val (.int p3), .val (.int p4), .val (.int nn), .val (.int fr), .val (.int c0), .val (.int c1), .val (.int c2), .val (.int c3), .val (.ref x_14), .val (.int d0), .val (.int d1), .unset, .unset, .unset, .unset, .unset, .unset, .unset] [])) (fun _ kt_ => XS.ifYes X55.here hx rfl (pc0 := 114) (pc' := 121) rfl (hb hby at_114) rfl (XT.i0_eq_t hc57) (by decide) (by decide) kt_) ?_
       refine own_by (T' := T55) (g' := (mkF m 122 #[.val (.int p0), .val (.int p1), .val (.int p2), .val (.int p3), .val (.int p4), .val (.int nn), .val (.int fr), .val (.int c0), .val (.int c1), .val (.int c2), .val (.int c3), .val (.ref x_14), .val (.int d0), .val (.int d1), .unset, .unset, .unset, .unset, .unset, .unset, .unset] [.int 0])) (fun _ kt_ => XS.iconst X55.here hx rfl (hb hby at_121) kt_) ?_
       exact J24 T55 _  X55 e55  N56 (0 : Int32)  (by simp [hc54, hc57])
      ·refine own_by (T' := T55) (g' := (mkF m 117 #[.val (.int p0), .val (.int p1), .val (.int p2), .val (.int p3), .val (.int p4), .val (.int nn), .val (.int fr), .val (.int c0), .val (.int c1), .val (.int c2), .val (.int c3), .val (.ref x_14), .val (.int d0), .val (.int d1), .unset, .unset, .unset, .unset, .unset, .unset, .unset] [])) (fun _ kt_ => XS.ifNo X55.here hx rfl (hb hby at_114) rfl (XT.i0_eq_f hc57) kt_) ?_
       refine own_by (T' := T55) (g' := (mkF m 118 #[.val (.int p0), .val (.int p1), .val (.int p2), .val (.int p3), .val (.int p4), .val (.int nn), .val (.int fr), .val (.int c0), .val (.int c1), .val (.int c2), .val (.int c3), .val (.ref x_14), .val (.int d0), .val (.int d1), .unset, .unset, .unset, .unset, .unset, .unset, .unset] [.int 1])) (fun _ kt_ => XS.iconst X55.here hx rfl (hb hby at_117) kt_) ?_
       refine own_by (T' := T55) (g' := (mkF m 122 #[.val (.int p0), .val (.int p1), .val (.int p2), .val (.int p3), .val (.int p4), .val (.int nn), .val (.int fr), .val (.int c0), .val (.int c1), .val (.int c2), .val (.int c3), .val (.ref x_14), .val (.int d0), .val (.int d1), .unset, .unset, .unset, .unset, .unset, .unset, .unset] [.int 1])) (fun _ kt_ => XS.goto X55.here hx rfl (pc0 := 118) (pc' := 122) rfl (hb hby at_118) (by decide) (by decide) kt_) ?_
       exact J24 T55 _  X55 e55  N56 (1 : Int32)  (by simp [hc54, hc57])
     ·refine own_by (T' := T22) (g' := (mkF m 121 #[.val (.int p0), .val (.int p1), .val (.int p2), .val (.int p3), .val (.int p4), .val (.int nn), .val (.int fr), .val (.int c0), .val (.int c1), .val (.int c2), .val (.int c3), .val (.ref x_14), .val (.int d0), .val (.int d1), .unset, .unset, .unset, .unset, .unset, .unset, .unset] [])) (fun _ kt_ => XS.icmpYes X22.here hx rfl (pc0 := 106) (pc' := 121) rfl (hb hby at_106) rfl (XT.ii_le_t hc54) (by decide) (by decide) kt_) ?_
      refine own_by (T' := T22) (g' := (mkF m 122 #[.val (.int p0), .val (.int p1), .val (.int p2), .val (.int p3), .val (.int p4), .val (.int nn), .val (.int fr), .val (.int c0), .val (.int c1), .val (.int c2), .val (.int c3), .val (.ref x_14), .val (.int d0), .val (.int d1), .unset, .unset, .unset, .unset, .unset, .unset, .unset] [.int 0])) (fun _ kt_ => XS.iconst X22.here hx rfl (hb hby at_121) kt_) ?_
      exact J24 T22 _  X22 e22  N22 (0 : Int32)  (by simp [hc54])
    refine own_by (T' := T20) (g' := (mkF m 84 #[.val (.int p0), .val (.int p1), .val (.int p2), .val (.int p3), .val (.int p4), .val (.int nn), .val (.int fr), .val (.int c0), .val (.int c1), .val (.int c2), .val (.int c3), .val (.ref x_14), .val (.int d0), .unset, .unset, .unset, .unset, .unset, .unset, .unset, .unset] [.int nn])) (fun _ kt_ => XS.iload X20.here hx rfl (hb hby at_82) rfl kt_) ?_
    refine own_by (T' := T20) (g' := (mkF m 85 #[.val (.int p0), .val (.int p1), .val (.int p2), .val (.int p3), .val (.int p4), .val (.int nn), .val (.int fr), .val (.int c0), .val (.int c1), .val (.int c2), .val (.int c3), .val (.ref x_14), .val (.int d0), .unset, .unset, .unset, .unset, .unset, .unset, .unset, .unset] [.int 1, .int nn])) (fun _ kt_ => XS.iconst X20.here hx rfl (hb hby at_84) kt_) ?_
    by_cases hc58 : (1 : Int32) < nn
    ·refine own_by (T' := T20) (g' := (mkF m 88 #[.val (.int p0), .val (.int p1), .val (.int p2), .val (.int p3), .val (.int p4), .val (.int nn), .val (.int fr), .val (.int c0), .val (.int c1), .val (.int c2), .val (.int c3), .val (.ref x_14), .val (.int d0), .unset, .unset, .unset, .unset, .unset, .unset, .unset, .unset] [])) (fun _ kt_ => XS.icmpNo X20.here hx rfl (hb hby at_85) rfl (XT.ii_le_f hc58) kt_) ?_
     refine own_by (T' := T20) (g' := (mkF m 90 #[.val (.int p0), .val (.int p1), .val (.int p2), .val (.int p3), .val (.int p4), .val (.int nn), .val (.int fr), .val (.int c0), .val (.int c1), .val (.int c2), .val (.int c3), .val (.ref x_14), .val (.int d0), .unset, .unset, .unset, .unset, .unset, .unset, .unset, .unset] [.int c1])) (fun _ kt_ => XS.iload X20.here hx rfl (hb hby at_88) rfl kt_) ?_
     obtain ⟨_, _, ⟨T59, L59, k59, n59⟩, -, X59, ⟨Lc59, hQ59, l59, y59, z59⟩, st59⟩ := Jvm.LawKit.callS X20 hx (y := (⟨"com/example/vestledger/vestledger/journal/JournalDecimalsDigitsFromPinLaw", "isDigit", "(C)Z"⟩ : MethodName)) hown13 (mvT hZ13 (ww hw 54 rfl)) (mvT hZ13 (ww hw 55 rfl)) (mvT hZ13 (ww hw 2 rfl)) (mvT hZ13 (ww hw 56 rfl)) (by decide) (backOf (W := 0) (rmIsD l Z a0 hw [] zC vF hvF GS c1 T13.heap n0 (by omega) oo18 ) hZ13 (ww hw 56 rfl) (ww hw 2 rfl) (by decide) (by decide)) (g := (mkF m 90 #[.val (.int p0), .val (.int p1), .val (.int p2), .val (.int p3), .val (.int p4), .val (.int nn), .val (.int fr), .val (.int c0), .val (.int c1), .val (.int c2), .val (.int c3), .val (.ref x_14), .val (.int d0), .unset, .unset, .unset, .unset, .unset, .unset, .unset, .unset] [.int c1])) rfl (by rw [hml]; rfl) (argsL := [.int c1]) (rest := []) (lenOf own_pd_14 rfl) rfl (by show 2 * 0 + _ ≤ _; exact Nat.le_of_eq rfl) (hb hby at_90) (fun _ _ => ⟨rfl, e20, (by decide : 4 + 0 ≤ _), (by decide : 12 + 0 ≤ _)⟩)
     dsimp only [Pt.U, Pt.locs, Pt.cells, Pt.slots] at X59 l59 y59 z59 st59 hQ59
     subst l59 y59 z59
     obtain ⟨rfl, N59q, e59⟩ := hQ59
     have N60 := Fr.app N20 N59q
     refine own_by (T' := T59) (g' := (mkF m 93 #[.val (.int p0), .val (.int p1), .val (.int p2), .val (.int p3), .val (.int p4), .val (.int nn), .val (.int fr), .val (.int c0), .val (.int c1), .val (.int c2), .val (.int c3), .val (.ref x_14), .val (.int d0), .unset, .unset, .unset, .unset, .unset, .unset, .unset, .unset] [(.int (isD c1))])) st59 ?_
     by_cases hc61 : (isD c1) = (0 : Int32)
     ·refine own_by (T' := T59) (g' := (mkF m 100 #[.val (.int p0), .val (.int p1), .val (.int p2), .val (.int p3), .val (.int p4), .val (.int nn), .val (.int fr), .val (.int c0), .val (.int c1), .val (.int c2), .val (.int c3), .val (.ref x_14), .val (.int d0), .unset, .unset, .unset, .unset, .unset, .unset, .unset, .unset] [])) (fun _ kt_ => XS.ifYes X59.here hx rfl (pc0 := 93) (pc' := 100) rfl (hb hby at_93) rfl (XT.i0_eq_t hc61) (by decide) (by decide) kt_) ?_
      refine own_by (T' := T59) (g' := (mkF m 101 #[.val (.int p0), .val (.int p1), .val (.int p2), .val (.int p3), .val (.int p4), .val (.int nn), .val (.int fr), .val (.int c0), .val (.int c1), .val (.int c2), .val (.int c3), .val (.ref x_14), .val (.int d0), .unset, .unset, .unset, .unset, .unset, .unset, .unset, .unset] [.int 0])) (fun _ kt_ => XS.iconst X59.here hx rfl (hb hby at_100) kt_) ?_
      exact J22 T59 _  X59 e59  N60 (0 : Int32)  (by simp [hc58, hc61])
     ·refine own_by (T' := T59) (g' := (mkF m 96 #[.val (.int p0), .val (.int p1), .val (.int p2), .val (.int p3), .val (.int p4), .val (.int nn), .val (.int fr), .val (.int c0), .val (.int c1), .val (.int c2), .val (.int c3), .val (.ref x_14), .val (.int d0), .unset, .unset, .unset, .unset, .unset, .unset, .unset, .unset] [])) (fun _ kt_ => XS.ifNo X59.here hx rfl (hb hby at_93) rfl (XT.i0_eq_f hc61) kt_) ?_
      refine own_by (T' := T59) (g' := (mkF m 97 #[.val (.int p0), .val (.int p1), .val (.int p2), .val (.int p3), .val (.int p4), .val (.int nn), .val (.int fr), .val (.int c0), .val (.int c1), .val (.int c2), .val (.int c3), .val (.ref x_14), .val (.int d0), .unset, .unset, .unset, .unset, .unset, .unset, .unset, .unset] [.int 1])) (fun _ kt_ => XS.iconst X59.here hx rfl (hb hby at_96) kt_) ?_
      refine own_by (T' := T59) (g' := (mkF m 101 #[.val (.int p0), .val (.int p1), .val (.int p2), .val (.int p3), .val (.int p4), .val (.int nn), .val (.int fr), .val (.int c0), .val (.int c1), .val (.int c2), .val (.int c3), .val (.ref x_14), .val (.int d0), .unset, .unset, .unset, .unset, .unset, .unset, .unset, .unset] [.int 1])) (fun _ kt_ => XS.goto X59.here hx rfl (pc0 := 97) (pc' := 101) rfl (hb hby at_97) (by decide) (by decide) kt_) ?_
      exact J22 T59 _  X59 e59  N60 (1 : Int32)  (by simp [hc58, hc61])
    ·refine own_by (T' := T20) (g' := (mkF m 100 #[.val (.int p0), .val (.int p1), .val (.int p2), .val (.int p3), .val (.int p4), .val (.int nn), .val (.int fr), .val (.int c0), .val (.int c1), .val (.int c2), .val (.int c3), .val (.ref x_14), .val (.int d0), .unset, .unset, .unset, .unset, .unset, .unset, .unset, .unset] [])) (fun _ kt_ => XS.icmpYes X20.here hx rfl (pc0 := 85) (pc' := 100) rfl (hb hby at_85) rfl (XT.ii_le_t hc58) (by decide) (by decide) kt_) ?_
     refine own_by (T' := T20) (g' := (mkF m 101 #[.val (.int p0), .val (.int p1), .val (.int p2), .val (.int p3), .val (.int p4), .val (.int nn), .val (.int fr), .val (.int c0), .val (.int c1), .val (.int c2), .val (.int c3), .val (.ref x_14), .val (.int d0), .unset, .unset, .unset, .unset, .unset, .unset, .unset, .unset] [.int 0])) (fun _ kt_ => XS.iconst X20.here hx rfl (hb hby at_100) kt_) ?_
     exact J22 T20 _  X20 e20  N20 (0 : Int32)  (by simp [hc58])
   refine own_by (T' := T13) (g' := (mkF m 64 #[.val (.int p0), .val (.int p1), .val (.int p2), .val (.int p3), .val (.int p4), .val (.int nn), .val (.int fr), .val (.int c0), .val (.int c1), .val (.int c2), .val (.int c3), .val (.ref x_14), .unset, .unset, .unset, .unset, .unset, .unset, .unset, .unset, .unset] [.int nn])) (fun _ kt_ => XS.iload X13.here hx rfl (hb hby at_62) rfl kt_) ?_
   by_cases hc62 : (0 : Int32) < nn
   ·refine own_by (T' := T13) (g' := (mkF m 67 #[.val (.int p0), .val (.int p1), .val (.int p2), .val (.int p3), .val (.int p4), .val (.int nn), .val (.int fr), .val (.int c0), .val (.int c1), .val (.int c2), .val (.int c3), .val (.ref x_14), .unset, .unset, .unset, .unset, .unset, .unset, .unset, .unset, .unset] [])) (fun _ kt_ => XS.ifNo X13.here hx rfl (hb hby at_64) rfl (XT.i0_le_f hc62) kt_) ?_
    refine own_by (T' := T13) (g' := (mkF m 69 #[.val (.int p0), .val (.int p1), .val (.int p2), .val (.int p3), .val (.int p4), .val (.int nn), .val (.int fr), .val (.int c0), .val (.int c1), .val (.int c2), .val (.int c3), .val (.ref x_14), .unset, .unset, .unset, .unset, .unset, .unset, .unset, .unset, .unset] [.int c0])) (fun _ kt_ => XS.iload X13.here hx rfl (hb hby at_67) rfl kt_) ?_
    obtain ⟨_, _, ⟨T63, L63, k63, n63⟩, -, X63, ⟨Lc63, hQ63, l63, y63, z63⟩, st63⟩ := Jvm.LawKit.callS X13 hx (y := (⟨"com/example/vestledger/vestledger/journal/JournalDecimalsDigitsFromPinLaw", "isDigit", "(C)Z"⟩ : MethodName)) hown13 (mvT hZ13 (ww hw 54 rfl)) (mvT hZ13 (ww hw 55 rfl)) (mvT hZ13 (ww hw 2 rfl)) (mvT hZ13 (ww hw 56 rfl)) (by decide) (backOf (W := 0) (rmIsD l Z a0 hw [] zC vF hvF GS c0 T13.heap n0 (by omega) oo18 ) hZ13 (ww hw 56 rfl) (ww hw 2 rfl) (by decide) (by decide)) (g := (mkF m 69 #[.val (.int p0), .val (.int p1), .val (.int p2), .val (.int p3), .val (.int p4), .val (.int nn), .val (.int fr), .val (.int c0), .val (.int c1), .val (.int c2), .val (.int c3), .val (.ref x_14), .unset, .unset, .unset, .unset, .unset, .unset, .unset, .unset, .unset] [.int c0])) rfl (by rw [hml]; rfl) (argsL := [.int c0]) (rest := []) (lenOf own_pd_14 rfl) rfl (by show 2 * 0 + _ ≤ _; exact Nat.le_of_eq rfl) (hb hby at_69) (fun _ _ => ⟨rfl, rfl, (by decide : 4 + 0 ≤ _), (by decide : 12 + 0 ≤ _)⟩)
    dsimp only [Pt.U, Pt.locs, Pt.cells, Pt.slots] at X63 l63 y63 z63 st63 hQ63
    subst l63 y63 z63
    obtain ⟨rfl, N63q, e63⟩ := hQ63
    have N64 := Fr.app N17 N63q
    refine own_by (T' := T63) (g' := (mkF m 72 #[.val (.int p0), .val (.int p1), .val (.int p2), .val (.int p3), .val (.int p4), .val (.int nn), .val (.int fr), .val (.int c0), .val (.int c1), .val (.int c2), .val (.int c3), .val (.ref x_14), .unset, .unset, .unset, .unset, .unset, .unset, .unset, .unset, .unset] [(.int (isD c0))])) st63 ?_
    by_cases hc65 : (isD c0) = (0 : Int32)
    ·refine own_by (T' := T63) (g' := (mkF m 79 #[.val (.int p0), .val (.int p1), .val (.int p2), .val (.int p3), .val (.int p4), .val (.int nn), .val (.int fr), .val (.int c0), .val (.int c1), .val (.int c2), .val (.int c3), .val (.ref x_14), .unset, .unset, .unset, .unset, .unset, .unset, .unset, .unset, .unset] [])) (fun _ kt_ => XS.ifYes X63.here hx rfl (pc0 := 72) (pc' := 79) rfl (hb hby at_72) rfl (XT.i0_eq_t hc65) (by decide) (by decide) kt_) ?_
     refine own_by (T' := T63) (g' := (mkF m 80 #[.val (.int p0), .val (.int p1), .val (.int p2), .val (.int p3), .val (.int p4), .val (.int nn), .val (.int fr), .val (.int c0), .val (.int c1), .val (.int c2), .val (.int c3), .val (.ref x_14), .unset, .unset, .unset, .unset, .unset, .unset, .unset, .unset, .unset] [.int 0])) (fun _ kt_ => XS.iconst X63.here hx rfl (hb hby at_79) kt_) ?_
     exact J20 T63 _  X63 e63  N64 (0 : Int32)  (by simp [hc62, hc65])
    ·refine own_by (T' := T63) (g' := (mkF m 75 #[.val (.int p0), .val (.int p1), .val (.int p2), .val (.int p3), .val (.int p4), .val (.int nn), .val (.int fr), .val (.int c0), .val (.int c1), .val (.int c2), .val (.int c3), .val (.ref x_14), .unset, .unset, .unset, .unset, .unset, .unset, .unset, .unset, .unset] [])) (fun _ kt_ => XS.ifNo X63.here hx rfl (hb hby at_72) rfl (XT.i0_eq_f hc65) kt_) ?_
     refine own_by (T' := T63) (g' := (mkF m 76 #[.val (.int p0), .val (.int p1), .val (.int p2), .val (.int p3), .val (.int p4), .val (.int nn), .val (.int fr), .val (.int c0), .val (.int c1), .val (.int c2), .val (.int c3), .val (.ref x_14), .unset, .unset, .unset, .unset, .unset, .unset, .unset, .unset, .unset] [.int 1])) (fun _ kt_ => XS.iconst X63.here hx rfl (hb hby at_75) kt_) ?_
     refine own_by (T' := T63) (g' := (mkF m 80 #[.val (.int p0), .val (.int p1), .val (.int p2), .val (.int p3), .val (.int p4), .val (.int nn), .val (.int fr), .val (.int c0), .val (.int c1), .val (.int c2), .val (.int c3), .val (.ref x_14), .unset, .unset, .unset, .unset, .unset, .unset, .unset, .unset, .unset] [.int 1])) (fun _ kt_ => XS.goto X63.here hx rfl (pc0 := 76) (pc' := 80) rfl (hb hby at_76) (by decide) (by decide) kt_) ?_
     exact J20 T63 _  X63 e63  N64 (1 : Int32)  (by simp [hc62, hc65])
   ·refine own_by (T' := T13) (g' := (mkF m 79 #[.val (.int p0), .val (.int p1), .val (.int p2), .val (.int p3), .val (.int p4), .val (.int nn), .val (.int fr), .val (.int c0), .val (.int c1), .val (.int c2), .val (.int c3), .val (.ref x_14), .unset, .unset, .unset, .unset, .unset, .unset, .unset, .unset, .unset] [])) (fun _ kt_ => XS.ifYes X13.here hx rfl (pc0 := 64) (pc' := 79) rfl (hb hby at_64) rfl (XT.i0_le_t hc62) (by decide) (by decide) kt_) ?_
    refine own_by (T' := T13) (g' := (mkF m 80 #[.val (.int p0), .val (.int p1), .val (.int p2), .val (.int p3), .val (.int p4), .val (.int nn), .val (.int fr), .val (.int c0), .val (.int c1), .val (.int c2), .val (.int c3), .val (.ref x_14), .unset, .unset, .unset, .unset, .unset, .unset, .unset, .unset, .unset] [.int 0])) (fun _ kt_ => XS.iconst X13.here hx rfl (hb hby at_79) kt_) ?_
    exact J20 T13 _  X13 rfl  N17 (0 : Int32)  (by simp [hc62])
  refine own_by (T' := T9) (g' := (mkF m 47 #[.val (.int p0), .val (.int p1), .val (.int p2), .val (.int p3), .val (.int p4), .val (.int nn), .val (.int ((((p0.toUInt32 >>> ((3 : Int32) &&& 31).toUInt32).toInt32) &&& (255 : Int32)) % (nn + (1 : Int32)))), .val (.int (pickF p1)), .val (.int (pickF p2)), .val (.int (pickF p3)), .val (.int (pickF p4)), .unset, .unset, .unset, .unset, .unset, .unset, .unset, .unset, .unset, .unset] [])) (fun _ kt_ => XS.istore X9.here hx rfl (hb hby at_45) rfl (l' := #[.val (.int p0), .val (.int p1), .val (.int p2), .val (.int p3), .val (.int p4), .val (.int nn), .val (.int ((((p0.toUInt32 >>> ((3 : Int32) &&& 31).toUInt32).toInt32) &&& (255 : Int32)) % (nn + (1 : Int32)))), .val (.int (pickF p1)), .val (.int (pickF p2)), .val (.int (pickF p3)), .val (.int (pickF p4)), .unset, .unset, .unset, .unset, .unset, .unset, .unset, .unset, .unset, .unset]) rfl kt_) ?_
  exact J11 T9 _  X9 e9  N10 ((((p0.toUInt32 >>> ((3 : Int32) &&& 31).toUInt32).toInt32) &&& (255 : Int32)) % (nn + (1 : Int32))) (pickF p1) (pickF p2) (pickF p3) (pickF p4)  ⟨own_nf _ hj2, own_pick _, own_pick _, own_pick _, own_pick _⟩
 refine own_by (T' := s₁) (g' := (mkF m 8 #[.val (.int p0), .val (.int p1), .val (.int p2), .val (.int p3), .val (.int p4), .val (.int ((p0 &&& (7 : Int32)) % (5 : Int32))), .unset, .unset, .unset, .unset, .unset, .unset, .unset, .unset, .unset, .unset, .unset, .unset, .unset, .unset, .unset] [])) (fun _ kt_ => XS.istore X0.here hx rfl (hb hby at_6) rfl (l' := #[.val (.int p0), .val (.int p1), .val (.int p2), .val (.int p3), .val (.int p4), .val (.int ((p0 &&& (7 : Int32)) % (5 : Int32))), .unset, .unset, .unset, .unset, .unset, .unset, .unset, .unset, .unset, .unset, .unset, .unset, .unset, .unset, .unset]) rfl kt_) ?_
 exact J1 s₁ _  X0 e0  N0 ((p0 &&& (7 : Int32)) % (5 : Int32))  (own_nn _)
set_option maxRecDepth 65536 in
set_option maxHeartbeats 40000000 in
theorem comes_1 {Post : Tables → Env → Array Value → State → Outcome → State → Prop} (hpost : ∀ tb e args s v u, (limb_1_1.after args s (.returned v) u = true ∧ limb_1_2.after args s (.returned v) u = true ∧ True) → ReturnedEndW s (.returned v) u (Jvm.fieldLocs frame_1_writes args s ++ Jvm.arrayLocs frame_1_arrays args s ++ Jvm.staticLocs frame_1_statics s) 16 1152 → Post tb e args s (.returned v) u) :
  ArmFor flags0 classFile x code maxLocals ret World_1 tables_1 room_1 Calls_1 rest_1 Pre_1 Post := by
 intro l hfl _ _ p e ha hc hk s m args below hf hA hF happ hP
 obtain ⟨hcalls, hrest, hpre⟩ := hP
 obtain ⟨-, -, -, hnamed, -, -, -, hat⟩ := (Spec.applies_iff hf).mp happ
 obtain ⟨hg, hn⟩ := and_e (Cond.before_iff.mp (show (Jvm.Cond.and given_1 narrow_1).before args s = true from hpre))
 obtain ⟨g1a, g1b⟩ := and_e hg
 obtain ⟨g2a, g2b⟩ := and_e g1b
 obtain ⟨g3a, g3b⟩ := and_e g2b
 obtain ⟨g4a, g4b⟩ := and_e g3b
 obtain ⟨g5a, g5b⟩ := and_e g4b
 obtain ⟨w0, w1, w2, w3, w4, rfl⟩ : ∃ w0 w1 w2 w3 w4 : Value, args = #[w0, w1, w2, w3, w4] := by
  have hs : args.size = 5 := by simpa [Cond.value, given_1] using g1a
  obtain ⟨L⟩ := args
  match L, hs with
  | [w0, w1, w2, w3, w4], _ => exact ⟨w0, w1, w2, w3, w4, rfl⟩
 have hw := fun d (hd : d ∈ tables_1) => atoms_spec (ws := Jvm.Cond.code x code maxLocals ret :: tables_1) hat d (List.mem_cons_of_mem _ hd)
 have hfit : Fit s := fun {y c} hc i hi => by
  obtain ⟨ha, rfl⟩ := Array.getElem?_eq_some_iff.mp hc
  have q := List.all_eq_true.mp ((Array.all_eq_true_iff_forall_mem.mp hF) _ (Array.getElem_mem ha)) i (List.mem_range.mpr hi)
  simpa [Array.getElem?_eq_getElem hi] using q
 obtain ⟨i0, ei0⟩ := is_v g2a
 obtain rfl : w0 = (.int i0) := Option.some.inj ei0
 obtain ⟨i1, ei1⟩ := is_v g3a
 obtain rfl : w1 = (.int i1) := Option.some.inj ei1
 obtain ⟨i2, ei2⟩ := is_v g4a
 obtain rfl : w2 = (.int i2) := Option.some.inj ei2
 obtain ⟨i3, ei3⟩ := is_v g5a
 obtain rfl : w3 = (.int i3) := Option.some.inj ei3
 obtain ⟨i4, ei4⟩ := is_v g5b
 obtain rfl : w4 = (.int i4) := Option.some.inj ei4
 obtain ⟨hsets, hown0⟩ := atoms_of _ (rest_1_c_eq ▸ (show rest_1_c.before _ s = true from hrest))
 obtain ⟨zC, ev_zC⟩ := is_v (Cond.before_iff.mp (hsets _ (List.mem_of_getElem? (i := 1) rfl)))
 have sta_zC := Sta.start ev_zC (Or.inl (Cond.before_iff.mpr (Cond.before_iff.mp (hsets _ (List.mem_of_getElem? (i := 0) rfl)))))
 have ncmp : ¬ zC = (0 : Int32) := gotF (Cond.eq_ints ev_zC (Term.int_eval (0 : Int32))) (not_v (Cond.before_iff.mp (hsets _ (List.mem_of_getElem? (i := 2) rfl))))
 obtain ⟨vF, ev_vF, hvF⟩ := isR_v (Cond.before_iff.mp (hsets _ (List.mem_of_getElem? (i := 8) rfl)))
 have sta_vF := Sta.start ev_vF (Or.inl (Cond.before_iff.mpr (Cond.before_iff.mp (hsets _ (List.mem_of_getElem? (i := 7) rfl)))))
 have hheld : Jvm.Lit.constHeld s "java/lang/String" 7 := hcalls.1 ("java/lang/String", 7) (by simp [consts_1])
 have hcmpw : Jvm.Lit.compactW.before #[] s = true := Cond.before_iff.mpr (Cond.before_iff.mp (hsets _ (List.mem_of_getElem? (i := 2) rfl)))
 have GS : Glob s zC vF hvF := ⟨sta_zC, ncmp, sta_vF, hheld, hcmpw⟩
 obtain ⟨n, o, h1, h2, h3, _, L, rfl, ⟨rfl, N⟩, hq⟩ := rm0 l s _ hw tables_1 zC vF hvF GS i0 i1 i2 i3 i4 s.heap s.heap.size (Nat.le_refl _) (Old.start s) p e ha hc hk s m _ below hf ((Spec.applies_iff_loose hf).mp happ).1 ⟨rfl, State.Warmed39.refl s, rfl, IB.start⟩ trivial
 refine ⟨n, _, h1, h2, h3, hpost _ _ _ _ _ _ ⟨Cond.after_iff.mpr rfl, Cond.after_iff.mpr (eq_i res_at (Term.int_eval (1)) rfl), trivial⟩ ⟨hq.1, hq.2.1, hq.2.2.1, (hq.2.2.2.sift fun y hy => Or.inr (N y hy)).mono (by decide) (by decide)⟩⟩
theorem main_1_1 : Claimed_1_1 := comes_1 fun _ _ _ _ _ _ h hF => ⟨h.1, hF⟩
theorem main_1_2 : Claimed_1_2 := comes_1 fun _ _ _ _ _ _ h hF => ⟨h.2.1, hF⟩
end Jvm.Pilot.@@N@@
namespace Jvm.Pilot.@@N@@
open Jvm Jvm.ClassFile Sem Op Lib Jvm.Free Jvm.Stand Jvm.Pilot.@@N@@.Jvm.D
/-! MADE BY PROGRAM (witnessworld.py) out of the Statement's table words and the real class files: 20 classes; the members and pool entries that the words name. The judged class is class 1, her method 1. -/
namespace start1
open Jvm.ClassFile
def u (s : String) : CpInfo := .utf8 (stringToUtf16 s)
/-- a pool by its gaps: so many unusable entries, then the entry; so many at the end -/
def gap : Nat → List CpInfo → List CpInfo
  | 0, r => r
  | n + 1, r => .unusable :: gap n r
def poolList (es : List (Nat × CpInfo)) (last : Nat) : List CpInfo := es.foldr (fun e r => gap e.1 (e.2 :: r)) (gap last [])
def pool (es : List (Nat × CpInfo)) (last : Nat) : Array CpInfo := ⟨poolList es last⟩
def fileOf (pool : Array CpInfo) (this : Nat) (attrs : Array Attribute := #[]) (ms : Array MethodInfo := #[]) (fl : Nat := 33) (sup : Nat := 0) (ifs : Array Nat := #[]) (fds : Array FieldInfo := #[]) : ClassFile where
  minorVersion := 0
  majorVersion := 65
  constantPool := pool
  accessFlags := fl
  thisClass := this
  superClass := sup
  interfaces := ifs
  fields := fds
  methods := ms
  attributes := attrs
def plain (name : String) (sup : Option ClassId) : Class where
  name := name
  kind := .ordinary
  loader := none
  accessFlags := 33
  super := sup
  interfaces := #[]
  cf := none
  fields := #[]
  methods := #[]
  instanceTypes := #[]
  staticTypes := #[]
  resolved := #[]
  callSites := []
  init := .initialized
  statics := none
  mirror := none

def pool0 : Array CpInfo := pool [(5, u "<init>"), (0, u "()V"), (1, .class_ 10), (1, u "java/lang/Object")] 113

def k0c0 : Code := { maxStack := 0, maxLocals := 1, code := object_method_1_code, exceptionTable := #[], attributes := #[] }
def k0m0 : Method := { name := "<init>", desc := "()V", sig := { parameters := [], returnType := none }, accessFlags := 1, code := some k0c0 }
/-- java/lang/Object -/
def k0 : Class := { plain "java/lang/Object" none with
  accessFlags := 33
  interfaces := #[]
  cf := some (fileOf pool0 8 #[] #[{ accessFlags := 1, nameIndex := 5, descriptorIndex := 6, attributes := #[] }] 33 0 #[] #[])
  fields := #[]
  methods := #[k0m0]
  instanceTypes := #[]
  staticTypes := #[]
  resolved := Array.replicate 124 none
  statics := none }

def pool1 : Array CpInfo := pool [(2, .class_ 4), (1, u "java/lang/Object"), (0, u "<init>"), (0, u "()V"), (0, .methodref 8 9), (0, .class_ 10), (0, .nameAndType 11 12), (0, u "com/example/vestledger/vestledger/journal/JournalDecimalsDigitsFromPinLaw"), (0, u "pick"), (0, u "(I)C"), (0, .methodref 8 14), (0, .nameAndType 15 16), (0, u "build"), (0, u "(ICCCC)Ljava/lang/String;"), (0, .methodref 8 18), (0, .nameAndType 19 20), (0, u "isDigit"), (0, u "(C)Z"), (0, .methodref 22 23), (0, .class_ 24), (0, .nameAndType 25 26), (0, u "com/example/vestledger/vestledger/journal/JournalDecimals"), (0, u "digitsFrom"), (0, u "(Ljava/lang/String;I)I"), (0, .class_ 28), (0, u "java/lang/String"), (0, .methodref 27 30), (0, .nameAndType 5 31), (0, u "([C)V"), (2, u "law"), (0, u "(IIIII)Z")] 3

def k1m0 : Method := { name := "<init>", desc := "()V", sig := { parameters := [], returnType := none }, accessFlags := 2, code := none }
def k1c1 : Code := { maxStack := 5, maxLocals := 21, code := code, exceptionTable := #[], attributes := #[] }
def k1m1 : Method := { name := "law", desc := "(IIIII)Z", sig := { parameters := [.int, .int, .int, .int, .int], returnType := some .boolean }, accessFlags := 9, code := some k1c1 }
def k1c2 : Code := { maxStack := 2, maxLocals := 1, code := method_3_code, exceptionTable := #[], attributes := #[] }
def k1m2 : Method := { name := "isDigit", desc := "(C)Z", sig := { parameters := [.char], returnType := some .boolean }, accessFlags := 10, code := some k1c2 }
def k1c3 : Code := { maxStack := 3, maxLocals := 1, code := method_4_code, exceptionTable := #[], attributes := #[] }
def k1m3 : Method := { name := "pick", desc := "(I)C", sig := { parameters := [.int], returnType := some .char }, accessFlags := 10, code := some k1c3 }
def k1c4 : Code := { maxStack := 6, maxLocals := 5, code := method_5_code, exceptionTable := #[], attributes := #[] }
def k1m4 : Method := { name := "build", desc := "(ICCCC)Ljava/lang/String;", sig := { parameters := [.int, .char, .char, .char, .char], returnType := some (.object "java/lang/String") }, accessFlags := 10, code := some k1c4 }
/-- com/example/vestledger/vestledger/journal/JournalDecimalsDigitsFromPinLaw -/
def k1 : Class := { plain "com/example/vestledger/vestledger/journal/JournalDecimalsDigitsFromPinLaw" (some 0) with
  accessFlags := 49
  interfaces := #[]
  cf := some (fileOf pool1 8 #[] #[{ accessFlags := 2, nameIndex := 5, descriptorIndex := 6, attributes := #[] }, { accessFlags := 9, nameIndex := 34, descriptorIndex := 35, attributes := #[] }, { accessFlags := 10, nameIndex := 19, descriptorIndex := 20, attributes := #[] }, { accessFlags := 10, nameIndex := 11, descriptorIndex := 12, attributes := #[] }, { accessFlags := 10, nameIndex := 15, descriptorIndex := 16, attributes := #[] }] 49 2 #[] #[])
  fields := #[]
  methods := #[k1m0, k1m1, k1m2, k1m3, k1m4]
  instanceTypes := #[]
  staticTypes := #[]
  resolved := Array.replicate 39 none
  statics := none }

def pool2 : Array CpInfo := pool [(1, .class_ 2), (0, u "java/io/Serializable"), (0, .class_ 4), (0, u "java/lang/Object")] 2

/-- java/io/Serializable -/
def k2 : Class := { plain "java/io/Serializable" (some 0) with
  accessFlags := 1537
  interfaces := #[]
  cf := some (fileOf pool2 1 #[] #[] 1537 3 #[] #[])
  fields := #[]
  methods := #[]
  instanceTypes := #[]
  staticTypes := #[]
  resolved := Array.replicate 7 none
  statics := none }

def pool3 : Array CpInfo := pool [(1, .class_ 2), (0, u "java/lang/Comparable"), (0, .class_ 4), (0, u "java/lang/Object")] 7

/-- java/lang/Comparable -/
def k3 : Class := { plain "java/lang/Comparable" (some 0) with
  accessFlags := 1537
  interfaces := #[]
  cf := some (fileOf pool3 1 #[] #[] 1537 3 #[] #[])
  fields := #[]
  methods := #[]
  instanceTypes := #[]
  staticTypes := #[]
  resolved := Array.replicate 12 none
  statics := none }

def pool4 : Array CpInfo := pool [(2, .class_ 4), (1, u "java/lang/CharSequence"), (42, .class_ 48), (0, u "java/lang/CharSequence$1CodePointIterator"), (10, .class_ 60), (0, u "java/lang/CharSequence$1CharIterator"), (5, .class_ 67), (0, u "java/lang/Object")] 63

/-- java/lang/CharSequence -/
def k4 : Class := { plain "java/lang/CharSequence" (some 0) with
  accessFlags := 1537
  interfaces := #[]
  cf := some (fileOf pool4 2 #[.nestMembers #[47, 59]] #[] 1537 66 #[] #[])
  fields := #[]
  methods := #[]
  instanceTypes := #[]
  staticTypes := #[]
  resolved := Array.replicate 131 none
  statics := none }

def pool5 : Array CpInfo := pool [(1, .class_ 2), (0, u "java/lang/constant/Constable"), (0, .class_ 4), (0, u "java/lang/Object")] 6

/-- java/lang/constant/Constable -/
def k5 : Class := { plain "java/lang/constant/Constable" (some 0) with
  accessFlags := 1537
  interfaces := #[]
  cf := some (fileOf pool5 1 #[] #[] 1537 3 #[] #[])
  fields := #[]
  methods := #[]
  instanceTypes := #[]
  staticTypes := #[]
  resolved := Array.replicate 11 none
  statics := none }

def pool6 : Array CpInfo := pool [(1, .class_ 2), (0, u "java/lang/constant/ConstantDesc"), (0, .class_ 4), (0, u "java/lang/Object")] 32

/-- java/lang/constant/ConstantDesc -/
def k6 : Class := { plain "java/lang/constant/ConstantDesc" (some 0) with
  accessFlags := 1537
  interfaces := #[]
  cf := some (fileOf pool6 1 #[] #[] 1537 3 #[] #[])
  fields := #[]
  methods := #[]
  instanceTypes := #[]
  staticTypes := #[]
  resolved := Array.replicate 37 none
  statics := none }

def pool7 : Array CpInfo := pool [(1, .methodref 2 3), (0, .class_ 4), (0, .nameAndType 5 6), (0, u "java/lang/Object"), (0, u "<init>"), (0, u "()V"), (0, .string 8), (0, u ""), (0, .fieldref 10 11), (0, .class_ 12), (0, .nameAndType 13 14), (0, u "java/lang/String"), (0, u "value"), (0, u "[B"), (0, .fieldref 10 16), (0, .nameAndType 17 18), (0, u "coder"), (0, u "B"), (2, u "hash"), (0, u "I"), (2, u "hashIsZero"), (0, u "Z"), (0, .methodref 10 28), (0, .nameAndType 5 29), (0, u "([CIILjava/lang/Void;)V"), (8, .fieldref 10 39), (0, .nameAndType 40 26), (0, u "COMPACT_STRINGS"), (1, .class_ 44), (1, u "java/lang/StringUTF16"), (0, u "compress"), (1, .methodref 42 48), (0, .nameAndType 49 50), (0, u "coderFromArrayLen"), (0, u "([BI)B"), (56, .class_ 109), (1, u "java/lang/StringLatin1"), (32, u "()Z"), (34, .methodref 42 178), (0, .nameAndType 45 179), (0, u "([CII)[B"), (154, u "()I"), (0, .methodref 10 336), (0, .nameAndType 17 337), (0, u "()B"), (25, u "([BI)C"), (27, u "(II)V"), (35, u "(I)C"), (64, .methodref 10 493), (0, .nameAndType 494 142), (0, u "isLatin1"), (0, .methodref 107 496), (0, .nameAndType 497 363), (0, u "charAt"), (3, u "checkIndex"), (5, u "length"), (67, .class_ 576), (0, u "java/lang/CharSequence"), (22, u "CASE_INSENSITIVE_ORDER"), (0, u "Ljava/util/Comparator;"), (409, u "([C)V"), (42, .fieldref 1054 1055), (0, .class_ 1056), (0, .nameAndType 1057 1058), (0, u "jdk/internal/util/Preconditions"), (0, u "SIOOBE_FORMATTER"), (0, u "Ljava/util/function/BiFunction;"), (0, .methodref 1054 1060), (0, .nameAndType 501 1061), (0, u "(IILjava/util/function/BiFunction;)I"), (39, u "serialPersistentFields"), (0, u "[Ljava/io/ObjectStreamField;"), (0, .class_ 1104), (0, u "java/lang/String$CaseInsensitiveComparator"), (1, .class_ 1107), (0, u "java/io/Serializable"), (0, .class_ 1109), (0, u "java/lang/Comparable"), (0, .class_ 1111), (0, u "java/lang/constant/Constable"), (0, .class_ 1113), (0, u "java/lang/constant/ConstantDesc"), (2, u "serialVersionUID"), (0, u "J"), (3, u "REPL"), (0, u "C"), (2, u "LATIN1"), (1, u "UTF16")] 323

def k7m0 : Method := { name := "<init>", desc := "()V", sig := { parameters := [], returnType := none }, accessFlags := 1, code := none }
def k7c1 : Code := { maxStack := 5, maxLocals := 2, code := jdk_42_method_3_code, exceptionTable := #[], attributes := #[] }
def k7m1 : Method := { name := "<init>", desc := "([C)V", sig := { parameters := [(.array .char)], returnType := none }, accessFlags := 1, code := some k7c1 }
def k7c2 : Code := { maxStack := 2, maxLocals := 1, code := jdk_42_method_54_code, exceptionTable := #[], attributes := #[] }
def k7m2 : Method := { name := "length", desc := "()I", sig := { parameters := [], returnType := some .int }, accessFlags := 1, code := some k7c2 }
def k7c3 : Code := { maxStack := 2, maxLocals := 2, code := jdk_42_method_56_code, exceptionTable := #[], attributes := #[] }
def k7m3 : Method := { name := "charAt", desc := "(I)C", sig := { parameters := [.int], returnType := some .char }, accessFlags := 1, code := some k7c3 }
def k7c4 : Code := { maxStack := 4, maxLocals := 6, code := jdk_42_method_149_code, exceptionTable := #[], attributes := #[] }
def k7m4 : Method := { name := "<init>", desc := "([CIILjava/lang/Void;)V", sig := { parameters := [(.array .char), .int, .int, (.object "java/lang/Void")], returnType := none }, accessFlags := 2, code := some k7c4 }
def k7c5 : Code := { maxStack := 1, maxLocals := 1, code := jdk_42_method_152_code, exceptionTable := #[], attributes := #[] }
def k7m5 : Method := { name := "coder", desc := "()B", sig := { parameters := [], returnType := some .byte }, accessFlags := 0, code := some k7c5 }
def k7c6 : Code := { maxStack := 1, maxLocals := 1, code := jdk_42_method_154_code, exceptionTable := #[], attributes := #[] }
def k7m6 : Method := { name := "isLatin1", desc := "()Z", sig := { parameters := [], returnType := some .boolean }, accessFlags := 0, code := some k7c6 }
def k7c7 : Code := { maxStack := 3, maxLocals := 2, code := jdk_42_method_155_code, exceptionTable := #[], attributes := #[] }
def k7m7 : Method := { name := "checkIndex", desc := "(II)V", sig := { parameters := [.int, .int], returnType := none }, accessFlags := 8, code := some k7c7 }
/-- java/lang/String -/
def k7 : Class := { plain "java/lang/String" (some 0) with
  accessFlags := 49
  interfaces := #[2, 3, 4, 5, 6]
  cf := some (fileOf pool7 10 #[.nestMembers #[1103]] #[{ accessFlags := 1, nameIndex := 5, descriptorIndex := 6, attributes := #[] }, { accessFlags := 1, nameIndex := 5, descriptorIndex := 1010, attributes := #[] }, { accessFlags := 1, nameIndex := 507, descriptorIndex := 334, attributes := #[] }, { accessFlags := 1, nameIndex := 497, descriptorIndex := 427, attributes := #[] }, { accessFlags := 2, nameIndex := 5, descriptorIndex := 29, attributes := #[] }, { accessFlags := 0, nameIndex := 17, descriptorIndex := 337, attributes := #[] }, { accessFlags := 0, nameIndex := 494, descriptorIndex := 142, attributes := #[] }, { accessFlags := 8, nameIndex := 501, descriptorIndex := 391, attributes := #[] }] 49 2 #[1106, 1108, 575, 1110, 1112] #[{ accessFlags := 18, nameIndex := 13, descriptorIndex := 14, attributes := #[] }, { accessFlags := 18, nameIndex := 17, descriptorIndex := 18, attributes := #[] }, { accessFlags := 2, nameIndex := 21, descriptorIndex := 22, attributes := #[] }, { accessFlags := 2, nameIndex := 25, descriptorIndex := 26, attributes := #[] }, { accessFlags := 26, nameIndex := 1116, descriptorIndex := 1117, attributes := #[] }, { accessFlags := 24, nameIndex := 40, descriptorIndex := 26, attributes := #[] }, { accessFlags := 26, nameIndex := 1101, descriptorIndex := 1102, attributes := #[] }, { accessFlags := 26, nameIndex := 1121, descriptorIndex := 1122, attributes := #[] }, { accessFlags := 25, nameIndex := 599, descriptorIndex := 600, attributes := #[] }, { accessFlags := 24, nameIndex := 1125, descriptorIndex := 18, attributes := #[] }, { accessFlags := 24, nameIndex := 1127, descriptorIndex := 18, attributes := #[] }])
  fields := #[{ name := "value", type := (.array .byte), accessFlags := 18, slot := 0, constantValue := 0 }, { name := "coder", type := .byte, accessFlags := 18, slot := 1, constantValue := 0 }, { name := "hash", type := .int, accessFlags := 2, slot := 2, constantValue := 0 }, { name := "hashIsZero", type := .boolean, accessFlags := 2, slot := 3, constantValue := 0 }, { name := "serialVersionUID", type := .long, accessFlags := 26, slot := 0, constantValue := 0 }, { name := "COMPACT_STRINGS", type := .boolean, accessFlags := 24, slot := 1, constantValue := 0 }, { name := "serialPersistentFields", type := (.array (.object "java/io/ObjectStreamField")), accessFlags := 26, slot := 2, constantValue := 0 }, { name := "REPL", type := .char, accessFlags := 26, slot := 3, constantValue := 0 }, { name := "CASE_INSENSITIVE_ORDER", type := (.object "java/util/Comparator"), accessFlags := 25, slot := 4, constantValue := 0 }, { name := "LATIN1", type := .byte, accessFlags := 24, slot := 5, constantValue := 0 }, { name := "UTF16", type := .byte, accessFlags := 24, slot := 6, constantValue := 0 }]
  methods := #[k7m0, k7m1, k7m2, k7m3, k7m4, k7m5, k7m6, k7m7]
  instanceTypes := #[(.array .byte), .byte, .int, .boolean]
  staticTypes := #[.long, .boolean, (.array (.object "java/io/ObjectStreamField")), .char, (.object "java/util/Comparator"), .byte, .byte]
  resolved := Array.replicate 1451 none
  statics := some 0 }

def pool8 : Array CpInfo := pool [(1, .class_ 2), (0, u "com/example/vestledger/vestledger/journal/JournalDecimals"), (1, .class_ 6), (1, u "java/lang/Object"), (0, u "<init>"), (0, u "()V"), (9, u "(Ljava/lang/String;I)I"), (20, u "()I"), (0, .methodref 41 42), (0, .class_ 43), (0, .nameAndType 44 39), (0, u "java/lang/String"), (0, u "length"), (0, .methodref 41 46), (0, .nameAndType 47 48), (0, u "charAt"), (0, u "(I)C"), (2, u "digitsFrom"), (4, u "MOST_DIGITS"), (0, u "I"), (2, u "TOO_MANY_DIGITS"), (0, u "Ljava/lang/String;"), (2, u "MINUS"), (0, u "C")] 12

def k8m0 : Method := { name := "<init>", desc := "()V", sig := { parameters := [], returnType := none }, accessFlags := 2, code := none }
def k8c1 : Code := { maxStack := 2, maxLocals := 3, code := prog_21_method_5_code, exceptionTable := #[], attributes := #[] }
def k8m1 : Method := { name := "digitsFrom", desc := "(Ljava/lang/String;I)I", sig := { parameters := [(.object "java/lang/String"), .int], returnType := some .int }, accessFlags := 8, code := some k8c1 }
/-- com/example/vestledger/vestledger/journal/JournalDecimals -/
def k8 : Class := { plain "com/example/vestledger/vestledger/journal/JournalDecimals" (some 0) with
  accessFlags := 49
  interfaces := #[]
  cf := some (fileOf pool8 1 #[] #[{ accessFlags := 2, nameIndex := 7, descriptorIndex := 8, attributes := #[] }, { accessFlags := 8, nameIndex := 51, descriptorIndex := 18, attributes := #[] }] 49 4 #[] #[{ accessFlags := 25, nameIndex := 56, descriptorIndex := 57, attributes := #[] }, { accessFlags := 25, nameIndex := 60, descriptorIndex := 61, attributes := #[] }, { accessFlags := 26, nameIndex := 64, descriptorIndex := 65, attributes := #[] }])
  fields := #[{ name := "MOST_DIGITS", type := .int, accessFlags := 25, slot := 0, constantValue := 0 }, { name := "TOO_MANY_DIGITS", type := (.object "java/lang/String"), accessFlags := 25, slot := 1, constantValue := 0 }, { name := "MINUS", type := .char, accessFlags := 26, slot := 2, constantValue := 0 }]
  methods := #[k8m0, k8m1]
  instanceTypes := #[]
  staticTypes := #[.int, (.object "java/lang/String"), .char]
  resolved := Array.replicate 78 none
  statics := none }

def pool9 : Array CpInfo := pool [(6, .class_ 8), (1, u "java/lang/Object"), (0, u "<init>"), (0, u "()V"), (1, .class_ 14), (1, u "java/lang/StringUTF16"), (31, u "$assertionsDisabled"), (0, u "Z"), (13, u "HI_BYTE_SHIFT"), (0, u "I"), (2, u "LO_BYTE_SHIFT"), (49, .methodref 12 116), (0, .nameAndType 117 118), (0, u "compress"), (0, u "([CI[BII)I"), (3, u "([CII)[B"), (138, u "coderFromArrayLen"), (0, u "([BI)B"), (106, .class_ 371), (1, u "java/lang/StringUTF16$LinesSpliterator"), (58, u "MAX_LENGTH"), (196, .class_ 628), (0, u "java/lang/StringUTF16$CodePointsSpliterator"), (0, .class_ 630), (0, u "java/lang/StringUTF16$CharsSpliterator")] 4

def k9m0 : Method := { name := "<init>", desc := "()V", sig := { parameters := [], returnType := none }, accessFlags := 0, code := none }
def k9c1 : Code := { maxStack := 2, maxLocals := 2, code := jdk_52_method_15_code, exceptionTable := #[], attributes := #[] }
def k9m1 : Method := { name := "coderFromArrayLen", desc := "([BI)B", sig := { parameters := [(.array .byte), .int], returnType := some .byte }, accessFlags := 8, code := some k9c1 }
def k9c2 : Code := { maxStack := 5, maxLocals := 6, code := jdk_52_method_16_code, exceptionTable := #[], attributes := #[] }
def k9m2 : Method := { name := "compress", desc := "([CII)[B", sig := { parameters := [(.array .char), .int, .int], returnType := some (.array .byte) }, accessFlags := 9, code := some k9c2 }
def k9c3 : Code := { maxStack := 3, maxLocals := 7, code := jdk_52_method_21_code, exceptionTable := #[], attributes := #[] }
def k9m3 : Method := { name := "compress", desc := "([CI[BII)I", sig := { parameters := [(.array .char), .int, (.array .byte), .int, .int], returnType := some .int }, accessFlags := 9, code := some k9c3 }
/-- java/lang/StringUTF16 -/
def k9 : Class := { plain "java/lang/StringUTF16" (some 0) with
  accessFlags := 48
  interfaces := #[]
  cf := some (fileOf pool9 12 #[.nestMembers #[627, 629, 369]] #[{ accessFlags := 0, nameIndex := 9, descriptorIndex := 10, attributes := #[] }, { accessFlags := 8, nameIndex := 261, descriptorIndex := 262, attributes := #[] }, { accessFlags := 9, nameIndex := 117, descriptorIndex := 122, attributes := #[] }, { accessFlags := 9, nameIndex := 117, descriptorIndex := 118, attributes := #[] }] 48 6 #[] #[{ accessFlags := 26, nameIndex := 61, descriptorIndex := 62, attributes := #[] }, { accessFlags := 26, nameIndex := 65, descriptorIndex := 62, attributes := #[] }, { accessFlags := 24, nameIndex := 430, descriptorIndex := 62, attributes := #[] }, { accessFlags := 4120, nameIndex := 46, descriptorIndex := 47, attributes := #[] }])
  fields := #[{ name := "HI_BYTE_SHIFT", type := .int, accessFlags := 26, slot := 0, constantValue := 0 }, { name := "LO_BYTE_SHIFT", type := .int, accessFlags := 26, slot := 1, constantValue := 0 }, { name := "MAX_LENGTH", type := .int, accessFlags := 24, slot := 2, constantValue := 0 }, { name := "$assertionsDisabled", type := .boolean, accessFlags := 4120, slot := 3, constantValue := 0 }]
  methods := #[k9m0, k9m1, k9m2, k9m3]
  instanceTypes := #[]
  staticTypes := #[.int, .int, .int, .boolean]
  resolved := Array.replicate 635 none
  statics := none }

def pool10 : Array CpInfo := pool [(1, .class_ 2), (0, u "java/lang/String"), (1, .class_ 6), (1, u "java/lang/Object"), (0, u "<init>"), (0, u "()V"), (0, .methodref 1 10), (0, .nameAndType 11 12), (0, u "checkIndex"), (0, u "(II)V"), (1, .class_ 16), (1, u "java/lang/StringLatin1"), (36, u "([BI)C"), (67, u "$assertionsDisabled"), (0, u "Z"), (98, .class_ 223), (1, u "java/lang/StringLatin1$LinesSpliterator"), (28, u "charAt"), (137, .class_ 391), (0, u "java/lang/StringLatin1$CharsSpliterator")] 3

def k10m0 : Method := { name := "<init>", desc := "()V", sig := { parameters := [], returnType := none }, accessFlags := 0, code := none }
def k10c1 : Code := { maxStack := 2, maxLocals := 2, code := jdk_43_method_2_code, exceptionTable := #[], attributes := #[] }
def k10m1 : Method := { name := "charAt", desc := "([BI)C", sig := { parameters := [(.array .byte), .int], returnType := some .char }, accessFlags := 9, code := some k10c1 }
/-- java/lang/StringLatin1 -/
def k10 : Class := { plain "java/lang/StringLatin1" (some 0) with
  accessFlags := 48
  interfaces := #[]
  cf := some (fileOf pool10 14 #[.nestMembers #[390, 221]] #[{ accessFlags := 0, nameIndex := 7, descriptorIndex := 8, attributes := #[] }, { accessFlags := 9, nameIndex := 252, descriptorIndex := 53, attributes := #[] }] 48 4 #[] #[{ accessFlags := 4120, nameIndex := 121, descriptorIndex := 122, attributes := #[] }])
  fields := #[{ name := "$assertionsDisabled", type := .boolean, accessFlags := 4120, slot := 0, constantValue := 0 }]
  methods := #[k10m0, k10m1]
  instanceTypes := #[]
  staticTypes := #[.boolean]
  resolved := Array.replicate 395 none
  statics := none }

def pool11 : Array CpInfo := pool [(2, .class_ 4), (1, u "java/lang/Object"), (0, u "<init>"), (0, u "()V"), (17, .class_ 26), (1, u "jdk/internal/util/Preconditions"), (6, u "checkIndex"), (21, .class_ 56), (0, u "jdk/internal/util/Preconditions$4"), (57, .class_ 115), (0, u "jdk/internal/util/Preconditions$1"), (7, u "SIOOBE_FORMATTER"), (0, u "Ljava/util/function/BiFunction;"), (0, .class_ 126), (0, u "jdk/internal/util/Preconditions$2"), (3, u "AIOOBE_FORMATTER"), (0, .class_ 132), (0, u "jdk/internal/util/Preconditions$3"), (3, u "IOOBE_FORMATTER"), (41, u "(IILjava/util/function/BiFunction;)I")] 15

def k11m0 : Method := { name := "<init>", desc := "()V", sig := { parameters := [], returnType := none }, accessFlags := 1, code := none }
def k11c1 : Code := { maxStack := 3, maxLocals := 3, code := jdk_41_method_11_code, exceptionTable := #[], attributes := #[] }
def k11m1 : Method := { name := "checkIndex", desc := "(IILjava/util/function/BiFunction;)I", sig := { parameters := [.int, .int, (.object "java/util/function/BiFunction")], returnType := some .int }, accessFlags := 9, code := some k11c1 }
/-- jdk/internal/util/Preconditions -/
def k11 : Class := { plain "jdk/internal/util/Preconditions" (some 0) with
  accessFlags := 33
  interfaces := #[]
  cf := some (fileOf pool11 24 #[.nestMembers #[55, 131, 125, 114]] #[{ accessFlags := 1, nameIndex := 5, descriptorIndex := 6, attributes := #[] }, { accessFlags := 9, nameIndex := 33, descriptorIndex := 178, attributes := #[] }] 33 2 #[] #[{ accessFlags := 25, nameIndex := 123, descriptorIndex := 124, attributes := #[] }, { accessFlags := 25, nameIndex := 130, descriptorIndex := 124, attributes := #[] }, { accessFlags := 25, nameIndex := 136, descriptorIndex := 124, attributes := #[] }])
  fields := #[{ name := "SIOOBE_FORMATTER", type := (.object "java/util/function/BiFunction"), accessFlags := 25, slot := 0, constantValue := 0 }, { name := "AIOOBE_FORMATTER", type := (.object "java/util/function/BiFunction"), accessFlags := 25, slot := 1, constantValue := 0 }, { name := "IOOBE_FORMATTER", type := (.object "java/util/function/BiFunction"), accessFlags := 25, slot := 2, constantValue := 0 }]
  methods := #[k11m0, k11m1]
  instanceTypes := #[]
  staticTypes := #[(.object "java/util/function/BiFunction"), (.object "java/util/function/BiFunction"), (.object "java/util/function/BiFunction")]
  resolved := Array.replicate 194 none
  statics := some 1 }

def pool12 : Array CpInfo := pool [(9, u "<init>"), (6, .class_ 18), (1, u "java/lang/Object"), (0, u "()V"), (1, .class_ 23), (1, u "jdk/internal/util/ArraysSupport"), (0, u "LOG2_ARRAY_LONG_INDEX_SCALE"), (0, u "I"), (2, u "U"), (0, u "Ljdk/internal/misc/Unsafe;"), (8, u "BIG_ENDIAN"), (0, u "Z"), (8, u "LOG2_BYTE_BIT_SIZE"), (4, u "LOG2_ARRAY_INT_INDEX_SCALE"), (54, u "JLA"), (0, u "Ljdk/internal/access/JavaLangAccess;"), (11, u "LOG2_ARRAY_BOOLEAN_INDEX_SCALE"), (9, u "LOG2_ARRAY_BYTE_INDEX_SCALE"), (5, u "LOG2_ARRAY_CHAR_INDEX_SCALE"), (5, u "LOG2_ARRAY_SHORT_INDEX_SCALE"), (18, u "LOG2_ARRAY_FLOAT_INDEX_SCALE"), (24, u "LOG2_ARRAY_DOUBLE_INDEX_SCALE"), (89, u "T_BOOLEAN"), (2, u "T_CHAR"), (1, u "T_FLOAT"), (1, u "T_DOUBLE"), (1, u "T_BYTE"), (1, u "T_SHORT"), (1, u "T_INT"), (1, u "T_LONG"), (1, u "SOFT_MAX_ARRAY_LENGTH")] 83

def k12m0 : Method := { name := "<init>", desc := "()V", sig := { parameters := [], returnType := none }, accessFlags := 2, code := none }
/-- jdk/internal/util/ArraysSupport -/
def k12 : Class := { plain "jdk/internal/util/ArraysSupport" (some 0) with
  accessFlags := 33
  interfaces := #[]
  cf := some (fileOf pool12 21 #[] #[{ accessFlags := 2, nameIndex := 9, descriptorIndex := 19, attributes := #[] }] 33 16 #[] #[{ accessFlags := 24, nameIndex := 28, descriptorIndex := 29, attributes := #[] }, { accessFlags := 26, nameIndex := 38, descriptorIndex := 39, attributes := #[] }, { accessFlags := 25, nameIndex := 121, descriptorIndex := 25, attributes := #[] }, { accessFlags := 25, nameIndex := 131, descriptorIndex := 25, attributes := #[] }, { accessFlags := 25, nameIndex := 137, descriptorIndex := 25, attributes := #[] }, { accessFlags := 25, nameIndex := 143, descriptorIndex := 25, attributes := #[] }, { accessFlags := 25, nameIndex := 53, descriptorIndex := 25, attributes := #[] }, { accessFlags := 25, nameIndex := 24, descriptorIndex := 25, attributes := #[] }, { accessFlags := 25, nameIndex := 162, descriptorIndex := 25, attributes := #[] }, { accessFlags := 25, nameIndex := 187, descriptorIndex := 25, attributes := #[] }, { accessFlags := 26, nameIndex := 48, descriptorIndex := 25, attributes := #[] }, { accessFlags := 25, nameIndex := 277, descriptorIndex := 25, attributes := #[] }, { accessFlags := 25, nameIndex := 280, descriptorIndex := 25, attributes := #[] }, { accessFlags := 25, nameIndex := 282, descriptorIndex := 25, attributes := #[] }, { accessFlags := 25, nameIndex := 284, descriptorIndex := 25, attributes := #[] }, { accessFlags := 25, nameIndex := 286, descriptorIndex := 25, attributes := #[] }, { accessFlags := 25, nameIndex := 288, descriptorIndex := 25, attributes := #[] }, { accessFlags := 25, nameIndex := 290, descriptorIndex := 25, attributes := #[] }, { accessFlags := 25, nameIndex := 292, descriptorIndex := 25, attributes := #[] }, { accessFlags := 26, nameIndex := 108, descriptorIndex := 109, attributes := #[] }, { accessFlags := 25, nameIndex := 294, descriptorIndex := 25, attributes := #[] }])
  fields := #[{ name := "U", type := (.object "jdk/internal/misc/Unsafe"), accessFlags := 24, slot := 0, constantValue := 0 }, { name := "BIG_ENDIAN", type := .boolean, accessFlags := 26, slot := 1, constantValue := 0 }, { name := "LOG2_ARRAY_BOOLEAN_INDEX_SCALE", type := .int, accessFlags := 25, slot := 2, constantValue := 0 }, { name := "LOG2_ARRAY_BYTE_INDEX_SCALE", type := .int, accessFlags := 25, slot := 3, constantValue := 0 }, { name := "LOG2_ARRAY_CHAR_INDEX_SCALE", type := .int, accessFlags := 25, slot := 4, constantValue := 0 }, { name := "LOG2_ARRAY_SHORT_INDEX_SCALE", type := .int, accessFlags := 25, slot := 5, constantValue := 0 }, { name := "LOG2_ARRAY_INT_INDEX_SCALE", type := .int, accessFlags := 25, slot := 6, constantValue := 0 }, { name := "LOG2_ARRAY_LONG_INDEX_SCALE", type := .int, accessFlags := 25, slot := 7, constantValue := 0 }, { name := "LOG2_ARRAY_FLOAT_INDEX_SCALE", type := .int, accessFlags := 25, slot := 8, constantValue := 0 }, { name := "LOG2_ARRAY_DOUBLE_INDEX_SCALE", type := .int, accessFlags := 25, slot := 9, constantValue := 0 }, { name := "LOG2_BYTE_BIT_SIZE", type := .int, accessFlags := 26, slot := 10, constantValue := 0 }, { name := "T_BOOLEAN", type := .int, accessFlags := 25, slot := 11, constantValue := 0 }, { name := "T_CHAR", type := .int, accessFlags := 25, slot := 12, constantValue := 0 }, { name := "T_FLOAT", type := .int, accessFlags := 25, slot := 13, constantValue := 0 }, { name := "T_DOUBLE", type := .int, accessFlags := 25, slot := 14, constantValue := 0 }, { name := "T_BYTE", type := .int, accessFlags := 25, slot := 15, constantValue := 0 }, { name := "T_SHORT", type := .int, accessFlags := 25, slot := 16, constantValue := 0 }, { name := "T_INT", type := .int, accessFlags := 25, slot := 17, constantValue := 0 }, { name := "T_LONG", type := .int, accessFlags := 25, slot := 18, constantValue := 0 }, { name := "JLA", type := (.object "jdk/internal/access/JavaLangAccess"), accessFlags := 26, slot := 19, constantValue := 0 }, { name := "SOFT_MAX_ARRAY_LENGTH", type := .int, accessFlags := 25, slot := 20, constantValue := 0 }]
  methods := #[k12m0]
  instanceTypes := #[]
  staticTypes := #[(.object "jdk/internal/misc/Unsafe"), .boolean, .int, .int, .int, .int, .int, .int, .int, .int, .int, .int, .int, .int, .int, .int, .int, .int, .int, (.object "jdk/internal/access/JavaLangAccess"), .int]
  resolved := Array.replicate 378 none
  statics := none }

def pool13 : Array CpInfo := pool [(1, u "java/lang/Cloneable"), (0, .class_ 1), (0, u "java/lang/Object"), (0, .class_ 3)] 3

/-- java/lang/Cloneable -/
def k13 : Class := { plain "java/lang/Cloneable" (some 0) with
  accessFlags := 1537
  interfaces := #[]
  cf := some (fileOf pool13 2 #[] #[] 1537 4 #[] #[])
  fields := #[]
  methods := #[]
  instanceTypes := #[]
  staticTypes := #[]
  resolved := Array.replicate 8 none
  statics := none }

/-- the primitive byte -/
def k14 : Class := { plain "byte" none with kind := .primitive 'B', accessFlags := 0x411 }
/-- [B -/
def k15 : Class := { plain "[B" (some 0) with kind := .array 14 .byte, interfaces := #[13, 2], accessFlags := 1041 }

/-- the primitive char -/
def k16 : Class := { plain "char" none with kind := .primitive 'C', accessFlags := 0x411 }
/-- [C -/
def k17 : Class := { plain "[C" (some 0) with kind := .array 16 .char, interfaces := #[13, 2], accessFlags := 1041 }

/-- the primitive int -/
def k18 : Class := { plain "int" none with kind := .primitive 'I', accessFlags := 0x411 }
/-- [I -/
def k19 : Class := { plain "[I" (some 0) with kind := .array 18 .int, interfaces := #[13, 2], accessFlags := 1041 }

def heap : Heap := #[{ cls := 7, slots := #[.long 0, .int 1, .null, .int 0, .null, .int 0, .int 0], vm := .statics 7 },
  { cls := 11, slots := #[.null, .null, .null], vm := .statics 11 }]
def classes : Array Class := #[k0, k1, k2, k3, k4, k5, k6, k7, k8, k9, k10, k11, k12, k13, k14, k15, k16, k17, k18, k19]
def interned : List (Array UInt16 × Addr) := []
def slotsUsed : Nat := 10
def theMethod : MethodId := ⟨1, 1⟩
def args0 : Array Value := #[.int 1, .int 2, .int 3, .int 4, .int 5]
def aboutOver (below : List Frame) : State where
  vm := { classes := classes, interned := interned.toArray }
  heap := heap
  slotsUsed := slotsUsed
  threads := #[{ frames := .invoking theMethod args0 :: below }]
def below0 : List Frame := [.native { method := ⟨0, 0⟩, args := #[] }]
def about1 : State := aboutOver below0
def p0 : Program := .bare "" "" ""
def e0 : Env := launch0.env 0 0 0
theorem w_frames : about1.frames = Frame.invoking theMethod args0 :: below0 := rfl
set_option maxRecDepth 65536 in
theorem w_args : argsFit about1.vm theMethod args0 = true := by decide +kernel
set_option maxRecDepth 65536 in
theorem w_heap : heapFits about1 = true := by decide +kernel
set_option maxRecDepth 65536 in
theorem w_runnable : about1.curStatus? = some .runnable := by decide +kernel
set_option maxRecDepth 65536 in
theorem w_alone : about1.alone = true := by decide +kernel
set_option maxRecDepth 65536 in
theorem w_named : about1.methodNamed? x = some theMethod := by decide +kernel
set_option maxRecDepth 65536 in
theorem w_hears : about1.hears theMethod below0 = true := by decide +kernel
set_option maxRecDepth 65536 in
theorem w_ripe : about1.ripe theMethod args0 below0 = true := by decide +kernel
theorem w_running : about1.status = .running := rfl
set_option maxRecDepth 65536 in
theorem w_room : about1.hasRoom e0.platform room_1 = true :=
  launch0.hasRoom_least _ room_1 (by decide +kernel) (by decide +kernel) (by decide +kernel) (by decide +kernel) (by decide +kernel) (by decide +kernel)
theorem allAtoms_all (ts : List Jvm.Cond) (a : Array Jvm.Value) (st : Jvm.State) : (allAtoms ts).before a st = ts.all (fun c => c.before a st) := by
  induction ts with
  | nil => rfl
  | cons c t ih =>
    show (Jvm.Cond.and c (allAtoms t)).before a st = _
    rw [Jvm.Cond.before_and, ih, List.all_cons]
def words1 : List Jvm.Cond := Jvm.Cond.code x code maxLocals ret :: tables_1
/-- a 'code' word, met by the world's own term for the bytes: nothing is compared byte by byte -/
theorem code_word {y : MethodName} {bytes : ByteArray} {mx : Nat} {rt : Option FieldType} {a : Array Value} {s : State} {m : MethodId} {meth : Method} {c : Code} (h1 : s.methodNamed? y = some m) (h2 : s.vm.method? m = some meth) (h3 : meth.code = some c) (h4 : c.code = bytes)
    (h5 : (c.maxLocals == mx && c.exceptionTable.isEmpty && decide (c.maxStack ≤ mostOperands) && decide (meth.sig.returnType = rt) && !meth.locks && decide (parseMethodDescriptor y.desc = some meth.sig)) = true) : (Jvm.Cond.code y bytes mx rt).before a s = true := by
  simp only [Bool.and_eq_true, beq_iff_eq, Bool.not_eq_true', decide_eq_true_eq] at h5
  obtain ⟨⟨⟨⟨⟨g1, g2⟩, g3⟩, g4⟩, g5⟩, g6⟩ := h5
  simp [Cond.before, Cond.holds, Cond.value, h1, h2, h3, h4, g1, g2, g3, g4, g5, g6]
def isCode : Jvm.Cond → Bool
  | .code _ _ _ _ => true
  | _ => false
theorem all_split {L : List Jvm.Cond} {P : Jvm.Cond → Bool} (h1 : L.all (fun c => isCode c || P c) = true) (h2 : ∀ c ∈ L.filter isCode, P c = true) : L.all P = true := by
  refine List.all_eq_true.mpr fun c hc => ?_
  have h := List.all_eq_true.mp h1 c hc
  rcases Bool.eq_false_or_eq_true (isCode c) with hi | hi
  · exact h2 c (List.mem_filter.mpr ⟨hc, hi⟩)
  · simpa [hi] using h
set_option maxRecDepth 65536 in
theorem w_c0 : (Jvm.Cond.code x code maxLocals ret).before args0 about1 = true := code_word (m := ⟨1, 1⟩) (meth := k1m1) (c := k1c1) (by decide +kernel) rfl rfl rfl (by decide +kernel)
set_option maxRecDepth 65536 in
theorem w_c1 : (Jvm.Cond.code ({ cls := "com/example/vestledger/vestledger/journal/JournalDecimalsDigitsFromPinLaw", name := "pick", desc := "(I)C" } : Jvm.MethodName) method_4_code (1 : Nat) (Option.some Jvm.ClassFile.FieldType.char)).before args0 about1 = true := code_word (m := ⟨1, 3⟩) (meth := k1m3) (c := k1c3) (by decide +kernel) rfl rfl rfl (by decide +kernel)
set_option maxRecDepth 65536 in
theorem w_c2 : (Jvm.Cond.code ({ cls := "com/example/vestledger/vestledger/journal/JournalDecimalsDigitsFromPinLaw", name := "build", desc := "(ICCCC)Ljava/lang/String;" } : Jvm.MethodName) method_5_code (5 : Nat) (Option.some (Jvm.ClassFile.FieldType.object "java/lang/String"))).before args0 about1 = true := code_word (m := ⟨1, 4⟩) (meth := k1m4) (c := k1c4) (by decide +kernel) rfl rfl rfl (by decide +kernel)
set_option maxRecDepth 65536 in
theorem w_c3 : (Jvm.Cond.code ({ cls := "java/lang/String", name := "<init>", desc := "([C)V" } : Jvm.MethodName) jdk_42_method_3_code (2 : Nat) (Option.none : Option Jvm.ClassFile.FieldType)).before args0 about1 = true := code_word (m := ⟨7, 1⟩) (meth := k7m1) (c := k7c1) (by decide +kernel) rfl rfl rfl (by decide +kernel)
set_option maxRecDepth 65536 in
theorem w_c4 : (Jvm.Cond.code ({ cls := "java/lang/String", name := "<init>", desc := "([CIILjava/lang/Void;)V" } : Jvm.MethodName) jdk_42_method_149_code (6 : Nat) (Option.none : Option Jvm.ClassFile.FieldType)).before args0 about1 = true := code_word (m := ⟨7, 4⟩) (meth := k7m4) (c := k7c4) (by decide +kernel) rfl rfl rfl (by decide +kernel)
set_option maxRecDepth 65536 in
theorem w_c5 : (Jvm.Cond.code ({ cls := "java/lang/Object", name := "<init>", desc := "()V" } : Jvm.MethodName) object_method_1_code (1 : Nat) (Option.none : Option Jvm.ClassFile.FieldType)).before args0 about1 = true := code_word (m := ⟨0, 0⟩) (meth := k0m0) (c := k0c0) (by decide +kernel) rfl rfl rfl (by decide +kernel)
set_option maxRecDepth 65536 in
theorem w_c6 : (Jvm.Cond.code ({ cls := "com/example/vestledger/vestledger/journal/JournalDecimals", name := "digitsFrom", desc := "(Ljava/lang/String;I)I" } : Jvm.MethodName) prog_21_method_5_code (3 : Nat) (Option.some Jvm.ClassFile.FieldType.int)).before args0 about1 = true := code_word (m := ⟨8, 1⟩) (meth := k8m1) (c := k8c1) (by decide +kernel) rfl rfl rfl (by decide +kernel)
set_option maxRecDepth 65536 in
theorem w_c7 : (Jvm.Cond.code ({ cls := "java/lang/String", name := "length", desc := "()I" } : Jvm.MethodName) jdk_42_method_54_code (1 : Nat) (Option.some Jvm.ClassFile.FieldType.int)).before args0 about1 = true := code_word (m := ⟨7, 2⟩) (meth := k7m2) (c := k7c2) (by decide +kernel) rfl rfl rfl (by decide +kernel)
set_option maxRecDepth 65536 in
theorem w_c8 : (Jvm.Cond.code ({ cls := "java/lang/String", name := "coder", desc := "()B" } : Jvm.MethodName) jdk_42_method_152_code (1 : Nat) (Option.some Jvm.ClassFile.FieldType.byte)).before args0 about1 = true := code_word (m := ⟨7, 5⟩) (meth := k7m5) (c := k7c5) (by decide +kernel) rfl rfl rfl (by decide +kernel)
set_option maxRecDepth 65536 in
theorem w_c9 : (Jvm.Cond.code ({ cls := "java/lang/StringUTF16", name := "compress", desc := "([CII)[B" } : Jvm.MethodName) jdk_52_method_16_code (6 : Nat) (Option.some (Jvm.ClassFile.FieldType.array Jvm.ClassFile.FieldType.byte))).before args0 about1 = true := code_word (m := ⟨9, 2⟩) (meth := k9m2) (c := k9c2) (by decide +kernel) rfl rfl rfl (by decide +kernel)
set_option maxRecDepth 65536 in
theorem w_c10 : (Jvm.Cond.code ({ cls := "java/lang/StringUTF16", name := "compress", desc := "([CI[BII)I" } : Jvm.MethodName) jdk_52_method_21_code (7 : Nat) (Option.some Jvm.ClassFile.FieldType.int)).before args0 about1 = true := code_word (m := ⟨9, 3⟩) (meth := k9m3) (c := k9c3) (by decide +kernel) rfl rfl rfl (by decide +kernel)
set_option maxRecDepth 65536 in
theorem w_c11 : (Jvm.Cond.code ({ cls := "java/lang/StringUTF16", name := "coderFromArrayLen", desc := "([BI)B" } : Jvm.MethodName) jdk_52_method_15_code (2 : Nat) (Option.some Jvm.ClassFile.FieldType.byte)).before args0 about1 = true := code_word (m := ⟨9, 1⟩) (meth := k9m1) (c := k9c1) (by decide +kernel) rfl rfl rfl (by decide +kernel)
set_option maxRecDepth 65536 in
theorem w_c12 : (Jvm.Cond.code ({ cls := "com/example/vestledger/vestledger/journal/JournalDecimalsDigitsFromPinLaw", name := "isDigit", desc := "(C)Z" } : Jvm.MethodName) method_3_code (1 : Nat) (Option.some Jvm.ClassFile.FieldType.boolean)).before args0 about1 = true := code_word (m := ⟨1, 2⟩) (meth := k1m2) (c := k1c2) (by decide +kernel) rfl rfl rfl (by decide +kernel)
set_option maxRecDepth 65536 in
theorem w_c13 : (Jvm.Cond.code ({ cls := "java/lang/String", name := "charAt", desc := "(I)C" } : Jvm.MethodName) jdk_42_method_56_code (2 : Nat) (Option.some Jvm.ClassFile.FieldType.char)).before args0 about1 = true := code_word (m := ⟨7, 3⟩) (meth := k7m3) (c := k7c3) (by decide +kernel) rfl rfl rfl (by decide +kernel)
set_option maxRecDepth 65536 in
theorem w_c14 : (Jvm.Cond.code ({ cls := "java/lang/String", name := "isLatin1", desc := "()Z" } : Jvm.MethodName) jdk_42_method_154_code (1 : Nat) (Option.some Jvm.ClassFile.FieldType.boolean)).before args0 about1 = true := code_word (m := ⟨7, 6⟩) (meth := k7m6) (c := k7c6) (by decide +kernel) rfl rfl rfl (by decide +kernel)
set_option maxRecDepth 65536 in
theorem w_c15 : (Jvm.Cond.code ({ cls := "java/lang/StringLatin1", name := "charAt", desc := "([BI)C" } : Jvm.MethodName) jdk_43_method_2_code (2 : Nat) (Option.some Jvm.ClassFile.FieldType.char)).before args0 about1 = true := code_word (m := ⟨10, 1⟩) (meth := k10m1) (c := k10c1) (by decide +kernel) rfl rfl rfl (by decide +kernel)
set_option maxRecDepth 65536 in
theorem w_c16 : (Jvm.Cond.code ({ cls := "java/lang/String", name := "checkIndex", desc := "(II)V" } : Jvm.MethodName) jdk_42_method_155_code (2 : Nat) (Option.none : Option Jvm.ClassFile.FieldType)).before args0 about1 = true := code_word (m := ⟨7, 7⟩) (meth := k7m7) (c := k7c7) (by decide +kernel) rfl rfl rfl (by decide +kernel)
set_option maxRecDepth 65536 in
theorem w_c17 : (Jvm.Cond.code ({ cls := "jdk/internal/util/Preconditions", name := "checkIndex", desc := "(IILjava/util/function/BiFunction;)I" } : Jvm.MethodName) jdk_41_method_11_code (3 : Nat) (Option.some Jvm.ClassFile.FieldType.int)).before args0 about1 = true := code_word (m := ⟨11, 1⟩) (meth := k11m1) (c := k11c1) (by decide +kernel) rfl rfl rfl (by decide +kernel)
def codes1 : List Jvm.Cond := [Jvm.Cond.code x code maxLocals ret, Jvm.Cond.code ({ cls := "com/example/vestledger/vestledger/journal/JournalDecimalsDigitsFromPinLaw", name := "pick", desc := "(I)C" } : Jvm.MethodName) method_4_code (1 : Nat) (Option.some Jvm.ClassFile.FieldType.char), Jvm.Cond.code ({ cls := "com/example/vestledger/vestledger/journal/JournalDecimalsDigitsFromPinLaw", name := "build", desc := "(ICCCC)Ljava/lang/String;" } : Jvm.MethodName) method_5_code (5 : Nat) (Option.some (Jvm.ClassFile.FieldType.object "java/lang/String")), Jvm.Cond.code ({ cls := "java/lang/String", name := "<init>", desc := "([C)V" } : Jvm.MethodName) jdk_42_method_3_code (2 : Nat) (Option.none : Option Jvm.ClassFile.FieldType), Jvm.Cond.code ({ cls := "java/lang/String", name := "<init>", desc := "([CIILjava/lang/Void;)V" } : Jvm.MethodName) jdk_42_method_149_code (6 : Nat) (Option.none : Option Jvm.ClassFile.FieldType), Jvm.Cond.code ({ cls := "java/lang/Object", name := "<init>", desc := "()V" } : Jvm.MethodName) object_method_1_code (1 : Nat) (Option.none : Option Jvm.ClassFile.FieldType), Jvm.Cond.code ({ cls := "com/example/vestledger/vestledger/journal/JournalDecimals", name := "digitsFrom", desc := "(Ljava/lang/String;I)I" } : Jvm.MethodName) prog_21_method_5_code (3 : Nat) (Option.some Jvm.ClassFile.FieldType.int), Jvm.Cond.code ({ cls := "java/lang/String", name := "length", desc := "()I" } : Jvm.MethodName) jdk_42_method_54_code (1 : Nat) (Option.some Jvm.ClassFile.FieldType.int), Jvm.Cond.code ({ cls := "java/lang/String", name := "coder", desc := "()B" } : Jvm.MethodName) jdk_42_method_152_code (1 : Nat) (Option.some Jvm.ClassFile.FieldType.byte), Jvm.Cond.code ({ cls := "java/lang/StringUTF16", name := "compress", desc := "([CII)[B" } : Jvm.MethodName) jdk_52_method_16_code (6 : Nat) (Option.some (Jvm.ClassFile.FieldType.array Jvm.ClassFile.FieldType.byte)), Jvm.Cond.code ({ cls := "java/lang/StringUTF16", name := "compress", desc := "([CI[BII)I" } : Jvm.MethodName) jdk_52_method_21_code (7 : Nat) (Option.some Jvm.ClassFile.FieldType.int), Jvm.Cond.code ({ cls := "java/lang/StringUTF16", name := "coderFromArrayLen", desc := "([BI)B" } : Jvm.MethodName) jdk_52_method_15_code (2 : Nat) (Option.some Jvm.ClassFile.FieldType.byte), Jvm.Cond.code ({ cls := "com/example/vestledger/vestledger/journal/JournalDecimalsDigitsFromPinLaw", name := "isDigit", desc := "(C)Z" } : Jvm.MethodName) method_3_code (1 : Nat) (Option.some Jvm.ClassFile.FieldType.boolean), Jvm.Cond.code ({ cls := "java/lang/String", name := "charAt", desc := "(I)C" } : Jvm.MethodName) jdk_42_method_56_code (2 : Nat) (Option.some Jvm.ClassFile.FieldType.char), Jvm.Cond.code ({ cls := "java/lang/String", name := "isLatin1", desc := "()Z" } : Jvm.MethodName) jdk_42_method_154_code (1 : Nat) (Option.some Jvm.ClassFile.FieldType.boolean), Jvm.Cond.code ({ cls := "java/lang/StringLatin1", name := "charAt", desc := "([BI)C" } : Jvm.MethodName) jdk_43_method_2_code (2 : Nat) (Option.some Jvm.ClassFile.FieldType.char), Jvm.Cond.code ({ cls := "java/lang/String", name := "checkIndex", desc := "(II)V" } : Jvm.MethodName) jdk_42_method_155_code (2 : Nat) (Option.none : Option Jvm.ClassFile.FieldType), Jvm.Cond.code ({ cls := "jdk/internal/util/Preconditions", name := "checkIndex", desc := "(IILjava/util/function/BiFunction;)I" } : Jvm.MethodName) jdk_41_method_11_code (3 : Nat) (Option.some Jvm.ClassFile.FieldType.int)]
set_option maxRecDepth 65536 in
theorem codes_eq : words1.filter isCode = codes1 := rfl
theorem w_codes : ∀ c ∈ words1.filter isCode, c.before args0 about1 = true := by
  rw [codes_eq]
  intro c hc
  simp only [codes1, List.mem_cons, List.not_mem_nil, or_false] at hc
  rcases hc with rfl | rfl | rfl | rfl | rfl | rfl | rfl | rfl | rfl | rfl | rfl | rfl | rfl | rfl | rfl | rfl | rfl | rfl
  · exact w_c0
  · exact w_c1
  · exact w_c2
  · exact w_c3
  · exact w_c4
  · exact w_c5
  · exact w_c6
  · exact w_c7
  · exact w_c8
  · exact w_c9
  · exact w_c10
  · exact w_c11
  · exact w_c12
  · exact w_c13
  · exact w_c14
  · exact w_c15
  · exact w_c16
  · exact w_c17
set_option maxRecDepth 65536 in
theorem w_t1 : (words1.take 24).all (fun c => isCode c || c.before args0 about1) = true := by decide +kernel
set_option maxRecDepth 65536 in
theorem w_t2 : ((words1.drop 24).take 24).all (fun c => isCode c || c.before args0 about1) = true := by decide +kernel
set_option maxRecDepth 65536 in
theorem w_t3 : (((words1.drop 24).drop 24).take 24).all (fun c => isCode c || c.before args0 about1) = true := by decide +kernel
set_option maxRecDepth 65536 in
theorem w_t4 : (((words1.drop 24).drop 24).drop 24).all (fun c => isCode c || c.before args0 about1) = true := by decide +kernel
theorem w_tables : (allAtoms (Jvm.Cond.code x code maxLocals ret :: tables_1)).before args0 about1 = true := by
  rw [allAtoms_all]
  show words1.all (fun c => c.before args0 about1) = true
  refine all_split ?_ w_codes
  rw [← List.take_append_drop 24 words1, List.all_append, w_t1, ← List.take_append_drop 24 (words1.drop 24), List.all_append, w_t2, ← List.take_append_drop 24 ((words1.drop 24).drop 24), List.all_append, w_t3, w_t4]
  rfl
set_option maxRecDepth 65536 in
theorem w_rest : rest_1_c.before args0 about1 = true := by decide +kernel
set_option maxRecDepth 65536 in
theorem w_case : (Jvm.Cond.and given_1 narrow_1).before args0 about1 = true := by decide +kernel
set_option maxRecDepth 65536 in
theorem w_consts : constsHeld consts_1 about1 := Jvm.Lit.constsHeldB_iff.mp (by decide +kernel)
theorem w_applies : (headSpec (Jvm.Cond.code x code maxLocals ret :: tables_1) room_1).applies x e0.platform about1 = true :=
  (Spec.applies_iff w_frames).mpr ⟨w_running, w_runnable, w_alone, w_named, w_hears, w_ripe, w_room, w_tables⟩
theorem atStart : AtStart classFile x code maxLocals ret World_1 tables_1 room_1 Calls_1 rest_1 Pre_1 launch0 p0 e0 about1 theMethod args0 below0 :=
  ⟨lists_1, trivial, launch0.admits_env _ _ _, launch0.least_env, fairChoices_fair.cas, fairChoices_fair.clock, w_frames, w_args, w_heap, w_applies, ⟨w_consts, trivial⟩, w_rest, w_case⟩
end start1
theorem witness_1 : WitnessClaimed_1 := ⟨start1.p0, start1.e0, start1.about1, start1.theMethod, start1.args0, start1.below0, start1.atStart⟩
end Jvm.Pilot.@@N@@
